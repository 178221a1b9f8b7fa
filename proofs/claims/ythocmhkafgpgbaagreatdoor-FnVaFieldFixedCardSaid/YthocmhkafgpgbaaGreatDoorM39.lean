/- The reference's functions: part K. -/
import Derived.Test.YthocmhkafgpgbaaGreatDoorM29
import Derived.Test.YthocmhkafgpgbaaGreatDoorM32
import Derived.Test.YthocmhkafgpgbaaGreatDoorM33
import Derived.Test.YthocmhkafgpgbaaGreatDoorM34
namespace Go.Proofs.YthocmhkafgpgbaaGreatDoor.PFnVaFieldFixed
open Go.RowKit Go.Proofs.YthocmhkafgpgbaaGreatDoorW.PrintWords Go.Proofs.YthocmhkafgpgbaaGreatDoorW.PrintLast Go.Proofs.YthocmhkafgpgbaaGreatDoorW.PrintMore
attribute [local go_sem] max2_int min2_int max_two min_two max_three min_three max_four min_four
set_option linter.unusedVariables false
set_option linter.unusedSimpArgs false
def spec_VaFixed.f (k : Nat) (a0_0 : Bool) (l0_1 : List Int) (a1 : Int) : Option (List Int × Bool) := (spec_VaTwo.f k (wrap64 ((wrap64 (8 * a1)) - 1))).bind fun t244 => (if a0_0 = true then ((spec_NatCmp.f k l0_1 t244).bind fun t251 => (if t251 > 0 then (some (([] : List Int), false)) else ((spec_VaTwo.f k (wrap64 (8 * a1))).bind fun t252 => ((spec_NatSub.f k t252 l0_1).bind fun t255 => ((spec_vaLittle.f k t255 a1).bind fun t258 => (some (t258, true))))))) else ((spec_vaLittle.f k l0_1 a1).bind fun t247 => ((spec_NatCmp.f k l0_1 t244).bind fun t250 => (some (t247, decide (t250 < 0))))))
theorem spec_VaFixed.mono : ∀ a0 a1 a2 k, LeO (spec_VaFixed.f k a0 a1 a2) (spec_VaFixed.f (k + 1) a0 a1 a2) := by
 intro a0 a1 a2 k
 unfold spec_VaFixed.f
 repeat' first
   | (with_reducible exact spec_NatCmp.mono _ _ _)
   | (with_reducible exact spec_NatSub.mono _ _ _)
   | (with_reducible exact spec_VaTwo.mono _ _)
   | (with_reducible exact spec_vaLittle.mono _ _ _)
   | (with_reducible exact LeO.refl _)
   | (with_reducible exact LeO.none _)
   | (with_reducible refine LeO.ite ?_ ?_)
   | (with_reducible refine LeO.bind ?_ (fun _ => ?_))
   | exact spec_NatCmp.mono _ _ _
   | exact spec_NatSub.mono _ _ _
   | exact spec_VaTwo.mono _ _
   | exact spec_vaLittle.mono _ _ _
   | exact LeO.none _
   | refine LeO.ite ?_ ?_
   | refine LeO.bind ?_ (fun _ => ?_)
def spec_VaFixed.T3 : Bool × List (List Nat × List Nat) := (true, [([], []), ([0], [0]), ([], []), ([1, 2], [1, 2]), ([], []), ([4], [4]), ([], []), ([5, 6, 3], [5, 6]), ([7], [7]), ([3, 7, 0, 1, 2, 3], [3]), ([8, 9, 0, 1, 2, 3, 4, 5, 6, 7, 8, 9], [8])])
def spec_VaFixed.B3 : List Nat := [0, 1, 0, 7, 0, 16, 0, 127, 255, 255, 1023]
theorem spec_VaFixed.tab3 : rtab .any (opsOf Tryz.f7 3) = spec_VaFixed.T3 := by kernel_rfl
theorem spec_VaFixed.bits3 : waitsOk spec_VaFixed.T3.2 spec_VaFixed.B3 = true := by kernel_rfl
def spec_VaFixed.T6 : Bool × List (List Nat × List Nat) := (true, [([], []), ([0], [0]), ([1], [1]), ([], []), ([3], [3]), ([2, 4, 2], [2, 4]), ([], []), ([5, 6, 5], [5, 6]), ([7, 7, 0, 1, 2, 3, 4, 5, 6, 7], [7]), ([8, 0, 1, 2, 3, 4, 5, 6, 7, 8], [])])
def spec_VaFixed.B6 : List Nat := [0, 1, 3, 0, 8, 31, 0, 127, 255, 511]
theorem spec_VaFixed.tab6 : rtab .any (opsOf Tryz.f7 6) = spec_VaFixed.T6 := by kernel_rfl
theorem spec_VaFixed.bits6 : waitsOk spec_VaFixed.T6.2 spec_VaFixed.B6 = true := by kernel_rfl
set_option maxHeartbeats 8000000 in
set_option maxRecDepth 100000 in
theorem spec_VaFixed.calls (k : Nat) (a0_0 : Bool) (A0_1 : Option Addr) (c0_1 : Nat) (l0_1 : List Int) (a1 : Int) (r1 : List Int) (r2 : Bool) (w : World) (hr0_1 : Kd.C (Kd.int .u32) w A0_1 l0_1.length l0_1) (hc0_1 : l0_1.length ≤ c0_1) (h : spec_VaFixed.f k a0_0 l0_1 a1 = some (r1, r2)) :
  Calls Tryz.prog 7 #[.agg #[.bool a0_0, .slice A0_1 l0_1.length c0_1], .int .i64 a1] w fun e w' => ∃ v0_ : Value, e = .returned (.tuple #[v0_, .bool r2]) ∧ Kd.R (Kd.int .u8) 5 w' w.heap.size (fun _ => True) v0_ r1 ∧ Below w.heap.size w w' := by
 have hu30 := Tryz.underlying30
 have HR0_1 := Aside0.mk hr0_1
 have HC0_1 := Aside0.mk hc0_1
 clear hr0_1 hc0_1
 have HB := Aside0.mk (Below.refl w.heap.size w)
 have H : ((spec_VaTwo.f k (wrap64 ((wrap64 (8 * a1)) - 1))).bind fun t244 => (if a0_0 = true then ((spec_NatCmp.f k l0_1 t244).bind fun t251 => (if t251 > 0 then (some (([] : List Int), false)) else ((spec_VaTwo.f k (wrap64 (8 * a1))).bind fun t252 => ((spec_NatSub.f k t252 l0_1).bind fun t255 => ((spec_vaLittle.f k t255 a1).bind fun t258 => (some (t258, true))))))) else ((spec_vaLittle.f k l0_1 a1).bind fun t247 => ((spec_NatCmp.f k l0_1 t244).bind fun t250 => (some (t247, decide (t250 < 0))))))) = some (r1, r2) := h
 clear h
 replace H := Option.bind_eq_some_iff.mp H
 obtain ⟨t244, A30, H⟩ := H
 replace H : (if a0_0 = true then ((spec_NatCmp.f k l0_1 t244).bind fun t251 => (if t251 > 0 then (some (([] : List Int), false)) else ((spec_VaTwo.f k (wrap64 (8 * a1))).bind fun t252 => ((spec_NatSub.f k t252 l0_1).bind fun t255 => ((spec_vaLittle.f k t255 a1).bind fun t258 => (some (t258, true))))))) else ((spec_vaLittle.f k l0_1 a1).bind fun t247 => ((spec_NatCmp.f k l0_1 t244).bind fun t250 => (some (t247, decide (t250 < 0)))))) = some (r1, r2) := H
 have A3 := Aside0.mk A30
 clear A30
 by_cases c4 : a0_0 = true
 ·subst c4
  have H1 : ((spec_NatCmp.f k l0_1 t244).bind fun t251 => (if t251 > 0 then (some (([] : List Int), false)) else ((spec_VaTwo.f k (wrap64 (8 * a1))).bind fun t252 => ((spec_NatSub.f k t252 l0_1).bind fun t255 => ((spec_vaLittle.f k t255 a1).bind fun t258 => (some (t258, true))))))) = some (r1, r2) := by rw [if_pos rfl] at H; exact H
  clear H
  have H := H1
  clear H1
  replace H := Option.bind_eq_some_iff.mp H
  obtain ⟨t251, A50, H⟩ := H
  replace H : (if t251 > 0 then (some (([] : List Int), false)) else ((spec_VaTwo.f k (wrap64 (8 * a1))).bind fun t252 => ((spec_NatSub.f k t252 l0_1).bind fun t255 => ((spec_vaLittle.f k t255 a1).bind fun t258 => (some (t258, true)))))) = some (r1, r2) := H
  have A5 := Aside0.mk A50
  clear A50
  by_cases c6 : t251 > 0
  ·rw [if_pos c6] at H
   have c6b0 : decide (0 < t251) = true := decide_eq_true c6
   clear c6
   simp only [Option.some.injEq, Prod.mk.injEq] at H
   obtain ⟨rfl, rfl⟩ := H
   go_enter Tryz.func7, Tryz.ntmps7
   go_wp2_with (first | ((with_reducible refine gate_dst (N := 2) rfl ?_); refine box_event ?hg (N := 2) ?hd (cs := #[.bool true, .slice A0_1 l0_1.length c0_1]) (t := 30) ?hr ?_; (case hd => rfl); (case hg => rfl); (case hr => first | (go_simp; done) | (go_simp; rfl)); intro gb243 hg w7 hbox hb; have n0_ := Aside0.mk (below_step (by repeat (first | (with_reducible first | exact HB.out | apply below_alloc | apply pw_below_drewN | apply below_drew1) | exact HB.out)) hb); have n1_ := Aside0.mk (hbox); have n2_ := Aside0.mk ((by rw [hg]; exact (below_size (by repeat (first | (with_reducible first | exact HB.out | apply below_alloc | apply pw_below_drewN | apply below_drew1) | exact HB.out))) : w.heap.size ≤ gb243)); have n3_ := Aside0.mk ((by rw [hg]; exact (below_size (by repeat (first | (with_reducible first | exact HB.out | apply below_alloc | apply pw_below_drewN | apply below_drew1) | exact HB.out))) : w.heap.size ≤ gb243)); clear HB; have HB := n0_; have BK243 := n1_; have GW243 := n2_; have GE243 := n3_; clear n0_ n1_ n2_ n3_; clear hb hbox hg) | ((with_reducible refine gate_callee (f := 17) rfl ?_); refine goesL_ (some 10) rfl rfl Tryz.func17 (by kernel_rfl) rfl #[.int .i64 (wrap64 ((wrap64 (8 * a1)) - 1))] rfl (by (try simp only [List.map_toArray, List.map_cons, List.map_nil]); first | done | rfl | (simp only [List.length_drop, List.length_take]; rfl)) ?_; (with_reducible refine (spec_VaTwo.calls k (wrap64 ((wrap64 (8 * a1)) - 1)) t244 _ A3.out).mono ?_); rintro e w8 ⟨v245, rfl, ho0, hb⟩; refine ⟨_, rfl, ?_⟩; have n0_ := Aside0.mk (Kd.V_lower (Kd.V_mono (ok' := fun k_ => k_ ≠ gb243) ho0 (fun k_ hk_ => (Kd.freshB (g := gb243) (o := .cells #[.bool true, .slice A0_1 l0_1.length c0_1] 30 (0, 0)) (by (with_reducible repeat (first | refine blk_drewN ?_ _ | refine blk_drew ?_ | refine blk_alloc ?_ _)); exact BK243.out) k_ hk_))) (below_size (by repeat (first | (with_reducible first | exact HB.out | apply below_alloc | apply pw_below_drewN | apply below_drew1 | refine below_set ?_ GE243.out) | exact HB.out)))); have n1_ := Aside0.mk (blk_below (g := gb243) (o := .cells #[.bool true, .slice A0_1 l0_1.length c0_1] 30 (0, 0)) (by (with_reducible repeat (first | refine blk_drewN ?_ _ | refine blk_drew ?_ | refine blk_alloc ?_ _)); exact BK243.out) hb); have n2_ := Aside0.mk (below_step (by repeat (first | (with_reducible first | exact HB.out | apply below_alloc | apply pw_below_drewN | apply below_drew1 | refine below_set ?_ GE243.out) | exact HB.out)) hb); clear BK243; clear HB; have HO246 := n0_; have BK243 := n1_; have HB := n2_; clear n0_ n1_ n2_; (try clear hb); (try clear hb2); (try clear hk); (try clear hi); (try clear ho0); have hcz9_0 : w8.cell? ⟨gb243, 0, none⟩ = some (.bool true) := (blk_cell BK243.out 0).trans rfl; have hcz9_1 : w8.cell? ⟨gb243, 1, none⟩ = some (.slice A0_1 l0_1.length c0_1) := (blk_cell BK243.out 1).trans rfl; have hfz9_0 := blk_frozen BK243.out 0; have hfz9_1 := blk_frozen BK243.out 1; obtain ⟨Ao10, co10, eo10⟩ := Kd.V_slice HO246.out; subst eo10) | ((with_reducible refine gate_callee (f := 19) rfl ?_); refine goesL_ (some 26) rfl rfl Tryz.func19 (by kernel_rfl) rfl #[.slice A0_1 l0_1.length c0_1, .slice Ao10 t244.length co10] rfl (by (try simp only [List.map_toArray, List.map_cons, List.map_nil]); first | done | rfl | (simp only [List.length_drop, List.length_take]; rfl)) ?_; (with_reducible refine (spec_NatCmp.calls k _ _ l0_1 _ _ t244 t251 _ ?side1 ?side2 ?side3 ?side4 A5.out).mono ?_); (case side1 => repeat (first | exact (Kd.C_below HR0_1.out HB.out) | (with_reducible refine Kd.C_alloc ?_ _) | (with_reducible refine Kd.C_drewN ?_ _) | (with_reducible refine Kd.C_drew ?_))); (case side2 => exact HC0_1.out); (case side3 => repeat (first | exact (Kd.V_reads' HO246.out).2.2 | (with_reducible refine Kd.C_alloc ?_ _) | (with_reducible refine Kd.C_drewN ?_ _) | (with_reducible refine Kd.C_drew ?_))); (case side4 => exact (Kd.V_reads' HO246.out).2.1); rintro e w' ⟨rfl, ⟨nd, rfl⟩⟩; refine ⟨_, rfl, ?_⟩))
   go_ret2
   exact ⟨_, by first | rfl | (simp [errW_none, errW_some] <;> rfl) | (simp [*, errW_none, errW_some] <;> rfl), by first | exact Kd.R_nil _ _ _ _ _ | exact Kd.N_nil _ _ _ _ _ | exact Kd.V_nil _ _ _ _ _ | exact Kd.Q_nil _ _ _ _ _ | exact Kd.S_nil _ _ _ _ _, by repeat (first | (with_reducible first | exact HB.out | apply below_alloc | apply pw_below_drewN | apply below_drew1 | refine below_set ?_ GE243.out) | exact HB.out)⟩
  ·rw [if_neg c6] at H
   have c6b0 : decide (0 < t251) = false := decide_eq_false c6
   clear c6
   replace H := Option.bind_eq_some_iff.mp H
   obtain ⟨t252, A110, H⟩ := H
   replace H : ((spec_NatSub.f k t252 l0_1).bind fun t255 => ((spec_vaLittle.f k t255 a1).bind fun t258 => (some (t258, true)))) = some (r1, r2) := H
   have A11 := Aside0.mk A110
   clear A110
   replace H := Option.bind_eq_some_iff.mp H
   obtain ⟨t255, A120, H⟩ := H
   replace H : ((spec_vaLittle.f k t255 a1).bind fun t258 => (some (t258, true))) = some (r1, r2) := H
   have A12 := Aside0.mk A120
   clear A120
   replace H := Option.bind_eq_some_iff.mp H
   obtain ⟨t258, A130, H⟩ := H
   replace H : (some (t258, true)) = some (r1, r2) := H
   have A13 := Aside0.mk A130
   clear A130
   simp only [Option.some.injEq, Prod.mk.injEq] at H
   obtain ⟨rfl, rfl⟩ := H
   go_enter Tryz.func7, Tryz.ntmps7
   try go_wp2_with (first | ((with_reducible refine gate_dst (N := 2) rfl ?_); refine box_event ?hg (N := 2) ?hd (cs := #[.bool true, .slice A0_1 l0_1.length c0_1]) (t := 30) ?hr ?_; (case hd => rfl); (case hg => rfl); (case hr => first | (go_simp; done) | (go_simp; rfl)); intro gb243 hg w14 hbox hb; have n0_ := Aside0.mk (below_step (by repeat (first | (with_reducible first | exact HB.out | apply below_alloc | apply pw_below_drewN | apply below_drew1) | exact HB.out)) hb); have n1_ := Aside0.mk (hbox); have n2_ := Aside0.mk ((by rw [hg]; exact (below_size (by repeat (first | (with_reducible first | exact HB.out | apply below_alloc | apply pw_below_drewN | apply below_drew1) | exact HB.out))) : w.heap.size ≤ gb243)); have n3_ := Aside0.mk ((by rw [hg]; exact (below_size (by repeat (first | (with_reducible first | exact HB.out | apply below_alloc | apply pw_below_drewN | apply below_drew1) | exact HB.out))) : w.heap.size ≤ gb243)); clear HB; have HB := n0_; have BK243 := n1_; have GW243 := n2_; have GE243 := n3_; clear n0_ n1_ n2_ n3_; clear hb hbox hg) | ((with_reducible refine gate_callee (f := 17) rfl ?_); refine goesL_ (some 10) rfl rfl Tryz.func17 (by kernel_rfl) rfl #[.int .i64 (wrap64 ((wrap64 (8 * a1)) - 1))] rfl (by (try simp only [List.map_toArray, List.map_cons, List.map_nil]); first | done | rfl | (simp only [List.length_drop, List.length_take]; rfl)) ?_; (with_reducible refine (spec_VaTwo.calls k (wrap64 ((wrap64 (8 * a1)) - 1)) t244 _ A3.out).mono ?_); rintro e w15 ⟨v245, rfl, ho0, hb⟩; refine ⟨_, rfl, ?_⟩; have n0_ := Aside0.mk (Kd.V_lower (Kd.V_mono (ok' := fun k_ => k_ ≠ gb243) ho0 (fun k_ hk_ => (Kd.freshB (g := gb243) (o := .cells #[.bool true, .slice A0_1 l0_1.length c0_1] 30 (0, 0)) (by (with_reducible repeat (first | refine blk_drewN ?_ _ | refine blk_drew ?_ | refine blk_alloc ?_ _)); exact BK243.out) k_ hk_))) (below_size (by repeat (first | (with_reducible first | exact HB.out | apply below_alloc | apply pw_below_drewN | apply below_drew1 | refine below_set ?_ GE243.out) | exact HB.out)))); have n1_ := Aside0.mk (blk_below (g := gb243) (o := .cells #[.bool true, .slice A0_1 l0_1.length c0_1] 30 (0, 0)) (by (with_reducible repeat (first | refine blk_drewN ?_ _ | refine blk_drew ?_ | refine blk_alloc ?_ _)); exact BK243.out) hb); have n2_ := Aside0.mk (below_step (by repeat (first | (with_reducible first | exact HB.out | apply below_alloc | apply pw_below_drewN | apply below_drew1 | refine below_set ?_ GE243.out) | exact HB.out)) hb); clear BK243; clear HB; have HO246 := n0_; have BK243 := n1_; have HB := n2_; clear n0_ n1_ n2_; (try clear hb); (try clear hb2); (try clear hk); (try clear hi); (try clear ho0); have hcz16_0 : w15.cell? ⟨gb243, 0, none⟩ = some (.bool true) := (blk_cell BK243.out 0).trans rfl; have hcz16_1 : w15.cell? ⟨gb243, 1, none⟩ = some (.slice A0_1 l0_1.length c0_1) := (blk_cell BK243.out 1).trans rfl; have hfz16_0 := blk_frozen BK243.out 0; have hfz16_1 := blk_frozen BK243.out 1; obtain ⟨Ao17, co17, eo17⟩ := Kd.V_slice HO246.out; subst eo17) | ((with_reducible refine gate_callee (f := 19) rfl ?_); refine goesL_ (some 26) rfl rfl Tryz.func19 (by kernel_rfl) rfl #[.slice A0_1 l0_1.length c0_1, .slice Ao17 t244.length co17] rfl (by (try simp only [List.map_toArray, List.map_cons, List.map_nil]); first | done | rfl | (simp only [List.length_drop, List.length_take]; rfl)) ?_; (with_reducible refine (spec_NatCmp.calls k _ _ l0_1 _ _ t244 t251 _ ?side1 ?side2 ?side3 ?side4 A5.out).mono ?_); (case side1 => repeat (first | exact (Kd.C_below HR0_1.out HB.out) | (with_reducible refine Kd.C_alloc ?_ _) | (with_reducible refine Kd.C_drewN ?_ _) | (with_reducible refine Kd.C_drew ?_))); (case side2 => exact HC0_1.out); (case side3 => repeat (first | exact (Kd.V_reads' HO246.out).2.2 | (with_reducible refine Kd.C_alloc ?_ _) | (with_reducible refine Kd.C_drewN ?_ _) | (with_reducible refine Kd.C_drew ?_))); (case side4 => exact (Kd.V_reads' HO246.out).2.1); rintro e w' ⟨rfl, ⟨nd, rfl⟩⟩; refine ⟨_, rfl, ?_⟩))
   (try (rw [drewN_self w15]; generalize hq_ : World.drewN w15 _ = w15; have n0_ : Aside0 (Kd.V (Kd.int .u32) 91 w15 w.heap.size (fun k_ => k_ ≠ gb243) (.slice Ao17 t244.length co17) t244) := ⟨by rw [← hq_]; exact (by (with_reducible repeat (first | apply Kd.V_alloc | apply Kd.V_drewN | apply Kd.V_drew)); exact HO246.out)⟩; have n1_ : Aside0 (w15.heap[gb243]? = some (.cells #[.bool true, .slice A0_1 l0_1.length c0_1] 30 (0, 0))) := ⟨by rw [← hq_]; exact (by (with_reducible repeat (first | refine blk_drewN ?_ _ | refine blk_drew ?_ | refine blk_alloc ?_ _)); exact BK243.out)⟩; have n2_ : Aside0 (Below w.heap.size w w15) := ⟨by rw [← hq_]; exact (by repeat (first | (with_reducible first | exact HB.out | apply below_alloc | apply pw_below_drewN | apply below_drew1 | refine below_set ?_ GE243.out) | exact HB.out))⟩; clear HO246 BK243 HB hq_; have HO246 := n0_; have BK243 := n1_; have HB := n2_; clear n0_ n1_ n2_))
   have n0_ := Aside0.mk (Kd.V_drew HO246.out)
   have n1_ := Aside0.mk (blk_drew BK243.out)
   have n2_ := Aside0.mk (below_drew1 HB.out)
   clear HO246
   clear BK243
   clear HB
   have HO246 := n0_
   have BK243 := n1_
   have HB := n2_
   clear n0_ n1_ n2_
   refine start_ (n := 10) (S := fun w' => w'.cell? ⟨gb243, 0, none⟩ = some (.bool true) ∧ w'.cell? ⟨gb243, 1, none⟩ = some (.slice A0_1 l0_1.length c0_1)) (ds := []) z208 (by kernel_rfl) rfl rfl ⟨(blk_cell BK243.out 0).trans rfl, (blk_cell BK243.out 1).trans rfl⟩ (fun hHeld => ?_); refine with_tabW spec_VaFixed.tab6 spec_VaFixed.bits6 (fun HT_ HW_ => ?_)
   generalize w15.drew = w18 at HO246 BK243 HB hHeld ⊢
   refine pure_ (i := 0) (N := some 28) (v := ?_) (a' := ?_) z209 rfl rfl (any_of HT_.out (by kernel_rfl)) (fun _ _ _ h => h) (Or.inl ⟨by rfl, ?_⟩) ?_ ?_
   rotate_left
   ·intro w'
    go_simp
    with_reducible rfl
   rotate_left
   ·simp only [Act.put, sA, sB, sC, i64_w, i32_w]
    rfl
   refine pure_ (i := 1) (N := some 29) (v := ?_) (a' := ?_) z210 rfl rfl (any_of HT_.out (by kernel_rfl)) (fun _ _ _ h => h) (Or.inl ⟨by rfl, ?_⟩) ?_ ?_
   rotate_left
   ·intro w'
    go_simp
    with_reducible rfl
   rotate_left
   ·simp only [Act.put, sA, sB, sC, i64_w, i32_w]
    rfl
   refine pure_ (i := 3) (N := some 31) (v := ?_) (a' := ?_) z211 rfl rfl (any_of HT_.out (by kernel_rfl)) (fun _ _ _ h => h) (Or.inl ⟨by rfl, ?_⟩) ?_ ?_
   rotate_left
   ·intro w'
    go_simp
    with_reducible rfl
   rotate_left
   ·simp only [Act.put, sA, sB, sC, i64_w, i32_w]
    rfl
   refine pure_ (i := 6) (N := some 34) (v := ?_) (a' := ?_) z212 rfl rfl (any_of HT_.out (by kernel_rfl)) (fun _ _ _ h => h) (Or.inl ⟨by rfl, ?_⟩) ?_ ?_
   rotate_left
   ·intro w'
    go_simp
    with_reducible rfl
   rotate_left
   ·simp only [Act.put, sA, sB, sC, i64_w, i32_w]
    rfl
   refine take_ (i := 4) (N := some 32) (v := ?_) (a' := ?_) z213 rfl rfl (take_ofW HT_.out HW_.out (by kernel_rfl)) (fun _ _ _ h => h) (Or.inl ⟨by rfl, ?_⟩) hHeld ?_ ?_
   rotate_left
   ·rintro w' ⟨s0, s1⟩
    go_simp
    with_reducible rfl
   rotate_left
   ·simp only [Act.put, sA, sB, sC, i64_w, i32_w]
    rfl
   refine one_ (i := 2) (N := some 30) z214 rfl rfl (one_of HT_.out (by kernel_rfl)) (by decide) (fun K hK => ?_)
   refine goes_ Tryz.func17 (by kernel_rfl) rfl #[.int .i64 (wrap64 (8 * a1))] (by rfl) rfl rfl (by (try simp only [List.map_toArray, List.map_cons, List.map_nil]); first | done | rfl | (simp only [List.length_drop, List.length_take]; rfl)) ?_
   with_reducible refine (spec_VaTwo.calls k (wrap64 (8 * a1)) t252 _ A11.out).mono ?_
   rintro e w19 ⟨v253, rfl, ho0, hb⟩
   refine ⟨_, rfl, ?_⟩
   have n0_ := Aside0.mk (Kd.V_below (by (with_reducible repeat (first | apply Kd.V_alloc | apply Kd.V_drewN | apply Kd.V_drew)); exact HO246.out) hb)
   have n1_ := Aside0.mk (Kd.V_lower (Kd.V_mono (ok' := fun k_ => k_ ≠ gb243) ho0 (fun k_ hk_ => (Kd.freshB (g := gb243) (o := .cells #[.bool true, .slice A0_1 l0_1.length c0_1] 30 (0, 0)) (by (with_reducible repeat (first | refine blk_drewN ?_ _ | refine blk_drew ?_ | refine blk_alloc ?_ _)); exact BK243.out) k_ hk_))) (below_size (by repeat (first | (with_reducible first | exact HB.out | apply below_alloc | apply pw_below_drewN | apply below_drew1 | refine below_set ?_ GE243.out) | exact HB.out))))
   have n2_ := Aside0.mk (blk_below (g := gb243) (o := .cells #[.bool true, .slice A0_1 l0_1.length c0_1] 30 (0, 0)) (by (with_reducible repeat (first | refine blk_drewN ?_ _ | refine blk_drew ?_ | refine blk_alloc ?_ _)); exact BK243.out) hb)
   have n3_ := Aside0.mk (below_step (by repeat (first | (with_reducible first | exact HB.out | apply below_alloc | apply pw_below_drewN | apply below_drew1 | refine below_set ?_ GE243.out) | exact HB.out)) hb)
   clear HO246
   clear BK243
   clear HB
   have HO246 := n0_
   have HO254 := n1_
   have BK243 := n2_
   have HB := n3_
   clear n0_ n1_ n2_ n3_
   (try clear hb)
   (try clear hb2)
   (try clear hk)
   (try clear hi)
   (try clear ho0)
   obtain ⟨Ao20, co20, eo20⟩ := Kd.V_slice HO254.out
   (first | subst eo20 | (injection eo20 with f1_ f2_ f3_; have f4_ := f1_.symm; have f5_ := f3_.symm; clear f1_ f2_ f3_; subst f4_; subst f5_))
   refine hK.out _ _ ⟨(blk_cell BK243.out 0).trans rfl, (blk_cell BK243.out 1).trans rfl⟩ (fun hHeld => ?_)
   clear hK K
   refine norm_ (a' := ?_) ?_ ?_
   rotate_left
   ·show Act.put _ (some 30) _ = _
    simp only [Act.put, sA, sB, sC, i64_w, i32_w]
    rfl
   refine one_ (i := 5) (N := some 33) z215 rfl rfl (one_of HT_.out (by kernel_rfl)) (by decide) (fun K hK => ?_)
   refine goes_ Tryz.func20 (by kernel_rfl) rfl #[.slice Ao20 t252.length co20, .slice A0_1 l0_1.length c0_1] (by rfl) rfl rfl (by (try simp only [List.map_toArray, List.map_cons, List.map_nil]); first | done | rfl | (simp only [List.length_drop, List.length_take]; rfl)) ?_
   with_reducible refine (spec_NatSub.calls k _ _ t252 _ _ l0_1 t255 _ ?side1 ?side2 ?side3 ?side4 A12.out).mono ?_
   (case side1 => repeat (first | exact (Kd.V_reads' HO254.out).2.2 | (with_reducible refine Kd.C_alloc ?_ _) | (with_reducible refine Kd.C_drewN ?_ _) | (with_reducible refine Kd.C_drew ?_)))
   (case side2 => exact (Kd.V_reads' HO254.out).2.1)
   (case side3 => repeat (first | exact (Kd.C_below HR0_1.out HB.out) | (with_reducible refine Kd.C_alloc ?_ _) | (with_reducible refine Kd.C_drewN ?_ _) | (with_reducible refine Kd.C_drew ?_)))
   (case side4 => exact HC0_1.out)
   rintro e w21 ⟨v256, rfl, ho0, hb⟩
   refine ⟨_, rfl, ?_⟩
   have n0_ := Aside0.mk (Kd.V_below (by (with_reducible repeat (first | apply Kd.V_alloc | apply Kd.V_drewN | apply Kd.V_drew)); exact HO246.out) hb)
   have n1_ := Aside0.mk (Kd.V_below (by (with_reducible repeat (first | apply Kd.V_alloc | apply Kd.V_drewN | apply Kd.V_drew)); exact HO254.out) hb)
   have n2_ := Aside0.mk (Kd.V_lower (Kd.V_mono (ok' := fun k_ => k_ ≠ gb243) ho0 (fun k_ hk_ => (Kd.freshB (g := gb243) (o := .cells #[.bool true, .slice A0_1 l0_1.length c0_1] 30 (0, 0)) (by (with_reducible repeat (first | refine blk_drewN ?_ _ | refine blk_drew ?_ | refine blk_alloc ?_ _)); exact BK243.out) k_ hk_))) (below_size (by repeat (first | (with_reducible first | exact HB.out | apply below_alloc | apply pw_below_drewN | apply below_drew1 | refine below_set ?_ GE243.out) | exact HB.out))))
   have n3_ := Aside0.mk (blk_below (g := gb243) (o := .cells #[.bool true, .slice A0_1 l0_1.length c0_1] 30 (0, 0)) (by (with_reducible repeat (first | refine blk_drewN ?_ _ | refine blk_drew ?_ | refine blk_alloc ?_ _)); exact BK243.out) hb)
   have n4_ := Aside0.mk (below_step (by repeat (first | (with_reducible first | exact HB.out | apply below_alloc | apply pw_below_drewN | apply below_drew1 | refine below_set ?_ GE243.out) | exact HB.out)) hb)
   clear HO246
   clear HO254
   clear BK243
   clear HB
   have HO246 := n0_
   have HO254 := n1_
   have HO257 := n2_
   have BK243 := n3_
   have HB := n4_
   clear n0_ n1_ n2_ n3_ n4_
   (try clear hb)
   (try clear hb2)
   (try clear hk)
   (try clear hi)
   (try clear ho0)
   obtain ⟨Ao22, co22, eo22⟩ := Kd.V_slice HO257.out
   (first | subst eo22 | (injection eo22 with f1_ f2_ f3_; have f4_ := f1_.symm; have f5_ := f3_.symm; clear f1_ f2_ f3_; subst f4_; subst f5_))
   refine hK.out _ _ ⟨(blk_cell BK243.out 0).trans rfl, (blk_cell BK243.out 1).trans rfl⟩ (fun hHeld => ?_)
   clear hK K
   refine norm_ (a' := ?_) ?_ ?_
   rotate_left
   ·show Act.put _ (some 33) _ = _
    simp only [Act.put, sA, sB, sC, i64_w, i32_w]
    rfl
   refine one_ (i := 7) (N := some 35) z216 rfl rfl (one_of HT_.out (by kernel_rfl)) (by decide) (fun K hK => ?_)
   refine goes_ Tryz.func18 (by kernel_rfl) rfl #[.slice Ao22 t255.length co22, .int .i64 a1] (by rfl) rfl rfl (by (try simp only [List.map_toArray, List.map_cons, List.map_nil]); first | done | rfl | (simp only [List.length_drop, List.length_take]; rfl)) ?_
   with_reducible refine (spec_vaLittle.calls k _ _ t255 a1 t258 _ ?side1 ?side2 A13.out).mono ?_
   (case side1 => repeat (first | exact (Kd.V_reads' HO257.out).2.2 | (with_reducible refine Kd.C_alloc ?_ _) | (with_reducible refine Kd.C_drewN ?_ _) | (with_reducible refine Kd.C_drew ?_)))
   (case side2 => exact (Kd.V_reads' HO257.out).2.1)
   rintro e w23 ⟨v259, rfl, ho0, hb⟩
   refine ⟨_, rfl, ?_⟩
   have n0_ := Aside0.mk (Kd.V_elder' (by (with_reducible repeat (first | apply Kd.V_alloc | apply Kd.V_drewN | apply Kd.V_drew)); exact HO246.out) (Kd.R_base ho0) hb)
   have n1_ := Aside0.mk (Kd.V_elder' (by (with_reducible repeat (first | apply Kd.V_alloc | apply Kd.V_drewN | apply Kd.V_drew)); exact HO254.out) (Kd.R_base ho0) hb)
   have n2_ := Aside0.mk (Kd.V_elder' (by (with_reducible repeat (first | apply Kd.V_alloc | apply Kd.V_drewN | apply Kd.V_drew)); exact HO257.out) (Kd.R_base ho0) hb)
   have n3_ := Aside0.mk (Kd.R_lower ho0 (below_size (by repeat (first | (with_reducible first | exact HB.out | apply below_alloc | apply pw_below_drewN | apply below_drew1 | refine below_set ?_ GE243.out) | exact HB.out))))
   have n4_ := Aside0.mk (blk_below (g := gb243) (o := .cells #[.bool true, .slice A0_1 l0_1.length c0_1] 30 (0, 0)) (by (with_reducible repeat (first | refine blk_drewN ?_ _ | refine blk_drew ?_ | refine blk_alloc ?_ _)); exact BK243.out) hb)
   have n5_ := Aside0.mk (below_step (by repeat (first | (with_reducible first | exact HB.out | apply below_alloc | apply pw_below_drewN | apply below_drew1 | refine below_set ?_ GE243.out) | exact HB.out)) hb)
   clear HO246
   clear HO254
   clear HO257
   clear BK243
   clear HB
   have HO246 := n0_
   have HO254 := n1_
   have HO257 := n2_
   have HO260 := n3_
   have BK243 := n4_
   have HB := n5_
   clear n0_ n1_ n2_ n3_ n4_ n5_
   (try clear hb)
   (try clear hb2)
   (try clear hk)
   (try clear hi)
   (try clear ho0)
   refine hK.out _ _ ⟨(blk_cell BK243.out 0).trans rfl, (blk_cell BK243.out 1).trans rfl⟩ (fun hHeld => ?_)
   clear hK K
   refine norm_ (a' := ?_) ?_ ?_
   rotate_left
   ·show Act.put _ (some 35) _ = _
    simp only [Act.put, sA, sB, sC, i64_w, i32_w]
    rfl
   refine pure_ (i := 8) (N := some 4) (v := ?_) (a' := ?_) z217 rfl rfl (any_of HT_.out (by kernel_rfl)) (fun _ _ _ h => h) (Or.inl ⟨by rfl, ?_⟩) ?_ ?_
   rotate_left
   ·intro w'
    go_simp
    with_reducible rfl
   rotate_left
   ·simp only [Act.put, sA, sB, sC, i64_w, i32_w]
    rfl
   refine pure_ (i := 9) (N := some 5) (v := ?_) (a' := ?_) z218 rfl rfl (any_of HT_.out (by kernel_rfl)) (fun _ _ _ h => h) (Or.inl ⟨by rfl, ?_⟩) ?_ ?_
   rotate_left
   ·intro w'
    go_simp
    with_reducible rfl
   rotate_left
   ·simp only [Act.put, sA, sB, sC, i64_w, i32_w]
    rfl
   refine done_ (done_of HT_.out (by kernel_rfl)) ?_
   try go_wp2
   go_ret2
   exact ⟨_, by first | rfl | (simp [errW_none, errW_some] <;> rfl) | (simp [*, errW_none, errW_some] <;> rfl), by (with_reducible repeat (first | apply Kd.R_alloc | apply Kd.R_drewN | apply Kd.R_drew)); exact HO260.out, by repeat (first | (with_reducible first | exact HB.out | apply below_alloc | apply pw_below_drewN | apply below_drew1 | refine below_set ?_ GE243.out) | exact HB.out)⟩
 ·replace c4 := Bool.eq_false_iff.mpr c4
  subst c4
  have H1 : ((spec_vaLittle.f k l0_1 a1).bind fun t247 => ((spec_NatCmp.f k l0_1 t244).bind fun t250 => (some (t247, decide (t250 < 0))))) = some (r1, r2) := by rw [if_neg (show ¬ (false = true) by decide)] at H; exact H
  clear H
  have H := H1
  clear H1
  replace H := Option.bind_eq_some_iff.mp H
  obtain ⟨t247, A240, H⟩ := H
  replace H : ((spec_NatCmp.f k l0_1 t244).bind fun t250 => (some (t247, decide (t250 < 0)))) = some (r1, r2) := H
  have A24 := Aside0.mk A240
  clear A240
  replace H := Option.bind_eq_some_iff.mp H
  obtain ⟨t250, A250, H⟩ := H
  replace H : (some (t247, decide (t250 < 0))) = some (r1, r2) := H
  have A25 := Aside0.mk A250
  clear A250
  simp only [Option.some.injEq, Prod.mk.injEq] at H
  obtain ⟨rfl, rfl⟩ := H
  go_enter Tryz.func7, Tryz.ntmps7
  try go_wp2_with (first | ((with_reducible refine gate_dst (N := 2) rfl ?_); refine box_event ?hg (N := 2) ?hd (cs := #[.bool false, .slice A0_1 l0_1.length c0_1]) (t := 30) ?hr ?_; (case hd => rfl); (case hg => rfl); (case hr => first | (go_simp; done) | (go_simp; rfl)); intro gb243 hg w26 hbox hb; have n0_ := Aside0.mk (below_step (by repeat (first | (with_reducible first | exact HB.out | apply below_alloc | apply pw_below_drewN | apply below_drew1) | exact HB.out)) hb); have n1_ := Aside0.mk (hbox); have n2_ := Aside0.mk ((by rw [hg]; exact (below_size (by repeat (first | (with_reducible first | exact HB.out | apply below_alloc | apply pw_below_drewN | apply below_drew1) | exact HB.out))) : w.heap.size ≤ gb243)); have n3_ := Aside0.mk ((by rw [hg]; exact (below_size (by repeat (first | (with_reducible first | exact HB.out | apply below_alloc | apply pw_below_drewN | apply below_drew1) | exact HB.out))) : w.heap.size ≤ gb243)); clear HB; have HB := n0_; have BK243 := n1_; have GW243 := n2_; have GE243 := n3_; clear n0_ n1_ n2_ n3_; clear hb hbox hg) | ((with_reducible refine gate_callee (f := 17) rfl ?_); refine goesL_ (some 10) rfl rfl Tryz.func17 (by kernel_rfl) rfl #[.int .i64 (wrap64 ((wrap64 (8 * a1)) - 1))] rfl (by (try simp only [List.map_toArray, List.map_cons, List.map_nil]); first | done | rfl | (simp only [List.length_drop, List.length_take]; rfl)) ?_; (with_reducible refine (spec_VaTwo.calls k (wrap64 ((wrap64 (8 * a1)) - 1)) t244 _ A3.out).mono ?_); rintro e w27 ⟨v245, rfl, ho0, hb⟩; refine ⟨_, rfl, ?_⟩; have n0_ := Aside0.mk (Kd.V_lower (Kd.V_mono (ok' := fun k_ => k_ ≠ gb243) ho0 (fun k_ hk_ => (Kd.freshB (g := gb243) (o := .cells #[.bool false, .slice A0_1 l0_1.length c0_1] 30 (0, 0)) (by (with_reducible repeat (first | refine blk_drewN ?_ _ | refine blk_drew ?_ | refine blk_alloc ?_ _)); exact BK243.out) k_ hk_))) (below_size (by repeat (first | (with_reducible first | exact HB.out | apply below_alloc | apply pw_below_drewN | apply below_drew1 | refine below_set ?_ GE243.out) | exact HB.out)))); have n1_ := Aside0.mk (blk_below (g := gb243) (o := .cells #[.bool false, .slice A0_1 l0_1.length c0_1] 30 (0, 0)) (by (with_reducible repeat (first | refine blk_drewN ?_ _ | refine blk_drew ?_ | refine blk_alloc ?_ _)); exact BK243.out) hb); have n2_ := Aside0.mk (below_step (by repeat (first | (with_reducible first | exact HB.out | apply below_alloc | apply pw_below_drewN | apply below_drew1 | refine below_set ?_ GE243.out) | exact HB.out)) hb); clear BK243; clear HB; have HO246 := n0_; have BK243 := n1_; have HB := n2_; clear n0_ n1_ n2_; (try clear hb); (try clear hb2); (try clear hk); (try clear hi); (try clear ho0); have hcz28_0 : w27.cell? ⟨gb243, 0, none⟩ = some (.bool false) := (blk_cell BK243.out 0).trans rfl; have hcz28_1 : w27.cell? ⟨gb243, 1, none⟩ = some (.slice A0_1 l0_1.length c0_1) := (blk_cell BK243.out 1).trans rfl; have hfz28_0 := blk_frozen BK243.out 0; have hfz28_1 := blk_frozen BK243.out 1))
  have n0_ := Aside0.mk (Kd.V_drew HO246.out)
  have n1_ := Aside0.mk (blk_drew BK243.out)
  have n2_ := Aside0.mk (below_drew1 HB.out)
  clear HO246
  clear BK243
  clear HB
  have HO246 := n0_
  have BK243 := n1_
  have HB := n2_
  clear n0_ n1_ n2_
  refine start_ (n := 11) (S := fun w' => w'.cell? ⟨gb243, 0, none⟩ = some (.bool false) ∧ w'.cell? ⟨gb243, 1, none⟩ = some (.slice A0_1 l0_1.length c0_1)) (ds := []) z219 (by kernel_rfl) rfl rfl ⟨(blk_cell BK243.out 0).trans rfl, (blk_cell BK243.out 1).trans rfl⟩ (fun hHeld => ?_); refine with_tabW spec_VaFixed.tab3 spec_VaFixed.bits3 (fun HT_ HW_ => ?_)
  generalize w27.drew = w29 at HO246 BK243 HB hHeld ⊢
  refine pure_ (i := 0) (N := some 14) (v := ?_) (a' := ?_) z220 rfl rfl (any_of HT_.out (by kernel_rfl)) (fun _ _ _ h => h) (Or.inl ⟨by rfl, ?_⟩) ?_ ?_
  rotate_left
  ·intro w'
   go_simp
   with_reducible rfl
  rotate_left
  ·simp only [Act.put, sA, sB, sC, i64_w, i32_w]
   rfl
  refine pure_ (i := 2) (N := some 16) (v := ?_) (a' := ?_) z221 rfl rfl (any_of HT_.out (by kernel_rfl)) (fun _ _ _ h => h) (Or.inl ⟨by rfl, ?_⟩) ?_ ?_
  rotate_left
  ·intro w'
   go_simp
   with_reducible rfl
  rotate_left
  ·simp only [Act.put, sA, sB, sC, i64_w, i32_w]
   rfl
  refine pure_ (i := 4) (N := some 18) (v := ?_) (a' := ?_) z222 rfl rfl (any_of HT_.out (by kernel_rfl)) (fun _ _ _ h => h) (Or.inl ⟨by rfl, ?_⟩) ?_ ?_
  rotate_left
  ·intro w'
   go_simp
   with_reducible rfl
  rotate_left
  ·simp only [Act.put, sA, sB, sC, i64_w, i32_w]
   rfl
  refine pure_ (i := 6) (N := some 20) (v := ?_) (a' := ?_) z223 rfl rfl (any_of HT_.out (by kernel_rfl)) (fun _ _ _ h => h) (Or.inl ⟨by rfl, ?_⟩) ?_ ?_
  rotate_left
  ·intro w'
   go_simp
   with_reducible rfl
  rotate_left
  ·simp only [Act.put, sA, sB, sC, i64_w, i32_w]
   rfl
  refine take_ (i := 1) (N := some 15) (v := ?_) (a' := ?_) z224 rfl rfl (take_ofW HT_.out HW_.out (by kernel_rfl)) (fun _ _ _ h => h) (Or.inl ⟨by rfl, ?_⟩) hHeld ?_ ?_
  rotate_left
  ·rintro w' ⟨s0, s1⟩
   go_simp
   with_reducible rfl
  rotate_left
  ·simp only [Act.put, sA, sB, sC, i64_w, i32_w]
   rfl
  refine take_ (i := 5) (N := some 19) (v := ?_) (a' := ?_) z225 rfl rfl (take_ofW HT_.out HW_.out (by kernel_rfl)) (fun _ _ _ h => h) (Or.inl ⟨by rfl, ?_⟩) hHeld ?_ ?_
  rotate_left
  ·rintro w' ⟨s0, s1⟩
   go_simp
   with_reducible rfl
  rotate_left
  ·simp only [Act.put, sA, sB, sC, i64_w, i32_w]
   rfl
  refine one_ (i := 3) (N := some 17) z226 rfl rfl (one_of HT_.out (by kernel_rfl)) (by decide) (fun K hK => ?_)
  refine goes_ Tryz.func18 (by kernel_rfl) rfl #[.slice A0_1 l0_1.length c0_1, .int .i64 a1] (by rfl) rfl rfl (by (try simp only [List.map_toArray, List.map_cons, List.map_nil]); first | done | rfl | (simp only [List.length_drop, List.length_take]; rfl)) ?_
  with_reducible refine (spec_vaLittle.calls k _ _ l0_1 a1 t247 _ ?side1 ?side2 A24.out).mono ?_
  (case side1 => repeat (first | exact (Kd.C_below HR0_1.out HB.out) | (with_reducible refine Kd.C_alloc ?_ _) | (with_reducible refine Kd.C_drewN ?_ _) | (with_reducible refine Kd.C_drew ?_)))
  (case side2 => exact HC0_1.out)
  rintro e w30 ⟨v248, rfl, ho0, hb⟩
  refine ⟨_, rfl, ?_⟩
  have n0_ := Aside0.mk (Kd.V_elder' (by (with_reducible repeat (first | apply Kd.V_alloc | apply Kd.V_drewN | apply Kd.V_drew)); exact HO246.out) (Kd.R_base ho0) hb)
  have n1_ := Aside0.mk (Kd.R_lower ho0 (below_size (by repeat (first | (with_reducible first | exact HB.out | apply below_alloc | apply pw_below_drewN | apply below_drew1 | refine below_set ?_ GE243.out) | exact HB.out))))
  have n2_ := Aside0.mk (blk_below (g := gb243) (o := .cells #[.bool false, .slice A0_1 l0_1.length c0_1] 30 (0, 0)) (by (with_reducible repeat (first | refine blk_drewN ?_ _ | refine blk_drew ?_ | refine blk_alloc ?_ _)); exact BK243.out) hb)
  have n3_ := Aside0.mk (below_step (by repeat (first | (with_reducible first | exact HB.out | apply below_alloc | apply pw_below_drewN | apply below_drew1 | refine below_set ?_ GE243.out) | exact HB.out)) hb)
  clear HO246
  clear BK243
  clear HB
  have HO246 := n0_
  have HO249 := n1_
  have BK243 := n2_
  have HB := n3_
  clear n0_ n1_ n2_ n3_
  (try clear hb)
  (try clear hb2)
  (try clear hk)
  (try clear hi)
  (try clear ho0)
  obtain ⟨Ao31, co31, eo31⟩ := Kd.V_slice HO246.out
  (first | subst eo31 | (injection eo31 with f1_ f2_ f3_; have f4_ := f1_.symm; have f5_ := f3_.symm; clear f1_ f2_ f3_; subst f4_; subst f5_))
  refine hK.out _ _ ⟨(blk_cell BK243.out 0).trans rfl, (blk_cell BK243.out 1).trans rfl⟩ (fun hHeld => ?_)
  clear hK K
  refine norm_ (a' := ?_) ?_ ?_
  rotate_left
  ·show Act.put _ (some 17) _ = _
   simp only [Act.put, sA, sB, sC, i64_w, i32_w]
   rfl
  refine one_ (i := 7) (N := some 21) z227 rfl rfl (one_of HT_.out (by kernel_rfl)) (by decide) (fun K hK => ?_)
  refine goes_ Tryz.func19 (by kernel_rfl) rfl #[.slice A0_1 l0_1.length c0_1, .slice Ao31 t244.length co31] (by rfl) rfl rfl (by (try simp only [List.map_toArray, List.map_cons, List.map_nil]); first | done | rfl | (simp only [List.length_drop, List.length_take]; rfl)) ?_
  with_reducible refine (spec_NatCmp.calls k _ _ l0_1 _ _ t244 t250 _ ?side1 ?side2 ?side3 ?side4 A25.out).mono ?_
  (case side1 => repeat (first | exact (Kd.C_below HR0_1.out HB.out) | (with_reducible refine Kd.C_alloc ?_ _) | (with_reducible refine Kd.C_drewN ?_ _) | (with_reducible refine Kd.C_drew ?_)))
  (case side2 => exact HC0_1.out)
  (case side3 => repeat (first | exact (Kd.V_reads' HO246.out).2.2 | (with_reducible refine Kd.C_alloc ?_ _) | (with_reducible refine Kd.C_drewN ?_ _) | (with_reducible refine Kd.C_drew ?_)))
  (case side4 => exact (Kd.V_reads' HO246.out).2.1)
  rintro e w' ⟨rfl, ⟨nd, rfl⟩⟩
  refine ⟨_, rfl, ?_⟩
  refine hK.out _ _ ⟨(blk_cell BK243.out 0).trans rfl, (blk_cell BK243.out 1).trans rfl⟩ (fun hHeld => ?_)
  clear hK K
  refine norm_ (a' := ?_) ?_ ?_
  rotate_left
  ·show Act.put _ (some 21) _ = _
   simp only [Act.put, sA, sB, sC, i64_w, i32_w]
   rfl
  refine pure_ (i := 8) (N := some 22) (v := ?_) (a' := ?_) z228 rfl rfl (any_of HT_.out (by kernel_rfl)) (fun _ _ _ h => h) (Or.inl ⟨by rfl, ?_⟩) ?_ ?_
  rotate_left
  ·intro w'
   go_simp
   with_reducible rfl
  rotate_left
  ·simp only [Act.put, sA, sB, sC, i64_w, i32_w]
   rfl
  refine pure_ (i := 9) (N := some 4) (v := ?_) (a' := ?_) z229 rfl rfl (any_of HT_.out (by kernel_rfl)) (fun _ _ _ h => h) (Or.inl ⟨by rfl, ?_⟩) ?_ ?_
  rotate_left
  ·intro w'
   go_simp
   with_reducible rfl
  rotate_left
  ·simp only [Act.put, sA, sB, sC, i64_w, i32_w]
   rfl
  refine pure_ (i := 10) (N := some 5) (v := ?_) (a' := ?_) z230 rfl rfl (any_of HT_.out (by kernel_rfl)) (fun _ _ _ h => h) (Or.inl ⟨by rfl, ?_⟩) ?_ ?_
  rotate_left
  ·intro w'
   go_simp
   with_reducible rfl
  rotate_left
  ·simp only [Act.put, sA, sB, sC, i64_w, i32_w]
   rfl
  refine done_ (done_of HT_.out (by kernel_rfl)) ?_
  try go_wp2
  go_ret2
  exact ⟨_, by first | rfl | (simp [errW_none, errW_some] <;> rfl) | (simp [*, errW_none, errW_some] <;> rfl), by (with_reducible repeat (first | apply Kd.R_alloc | apply Kd.R_drewN | apply Kd.R_drew)); exact HO249.out, by repeat (first | (with_reducible first | exact HB.out | apply below_alloc | apply pw_below_drewN | apply below_drew1 | refine below_set ?_ GE243.out) | exact HB.out)⟩
end Go.Proofs.YthocmhkafgpgbaaGreatDoor.PFnVaFieldFixed
