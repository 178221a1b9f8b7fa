/- The reference's functions: part G. -/
import Derived.Test.YtgamldefngehlaaGreatDoorM35
import Derived.Test.YtgamldefngehlaaGreatDoorM39
namespace Go.Proofs.YtgamldefngehlaaGreatDoor.PFnVaFieldDecimals
open Go.RowKit Go.Proofs.YtgamldefngehlaaGreatDoorW.PrintWords Go.Proofs.YtgamldefngehlaaGreatDoorW.PrintLast Go.Proofs.YtgamldefngehlaaGreatDoorW.PrintMore
attribute [local go_sem] max2_int min2_int max_two min_two max_three min_three max_four min_four
set_option linter.unusedVariables false
set_option linter.unusedSimpArgs false
def spec_VaBig.f (k : Nat) (a0_0 : Bool) (l0_1 : List Int) : Option (Bool × List Int) := (spec_VaBytes.f k l0_1).bind fun t369 => (some (a0_0, t369))
theorem spec_VaBig.mono : ∀ a0 a1 k, LeO (spec_VaBig.f k a0 a1) (spec_VaBig.f (k + 1) a0 a1) := by
 intro a0 a1 k
 unfold spec_VaBig.f
 repeat' first
   | (with_reducible exact spec_VaBytes.mono _ _)
   | (with_reducible exact LeO.refl _)
   | (with_reducible exact LeO.none _)
   | (with_reducible refine LeO.ite ?_ ?_)
   | (with_reducible refine LeO.bind ?_ (fun _ => ?_))
   | exact spec_VaBytes.mono _ _
   | exact LeO.none _
   | refine LeO.ite ?_ ?_
   | refine LeO.bind ?_ (fun _ => ?_)
set_option maxHeartbeats 8000000 in
set_option maxRecDepth 100000 in
theorem spec_VaBig.calls (k : Nat) (a0_0 : Bool) (A0_1 : Option Addr) (c0_1 : Nat) (l0_1 : List Int) (r1 : Bool) (r2 : List Int) (w : World) (hr0_1 : Kd.C (Kd.int .u32) w A0_1 l0_1.length l0_1) (hc0_1 : l0_1.length ≤ c0_1) (h : spec_VaBig.f k a0_0 l0_1 = some (r1, r2)) :
  Calls Tryz.prog 24 #[.agg #[.bool a0_0, .slice A0_1 l0_1.length c0_1]] w fun e w' => ∃ v1_ : Value, e = .returned (.agg #[.bool r1, v1_]) ∧ Kd.R (Kd.int .u8) 5 w' w.heap.size (fun _ => True) v1_ r2 ∧ Below w.heap.size w w' := by
 have hu29 := Tryz.underlying29
 have hu24 := Tryz.underlying24
 have HR0_1 := Aside0.mk hr0_1
 have HC0_1 := Aside0.mk hc0_1
 clear hr0_1 hc0_1
 have HB := Aside0.mk (Below.refl w.heap.size w)
 have H : ((spec_VaBytes.f k l0_1).bind fun t369 => (some (a0_0, t369))) = some (r1, r2) := h
 clear h
 replace H := Option.bind_eq_some_iff.mp H
 obtain ⟨t369, A20, H⟩ := H
 replace H : (some (a0_0, t369)) = some (r1, r2) := H
 have A2 := Aside0.mk A20
 clear A20
 simp only [Option.some.injEq, Prod.mk.injEq] at H
 obtain ⟨rfl, rfl⟩ := H
 go_enter Tryz.func24, Tryz.ntmps24
 try go_wp2_with (first | ((with_reducible refine gate_dst (N := 1) rfl ?_); refine box_event ?hg (N := 1) ?hd (cs := #[.bool a0_0, .slice A0_1 l0_1.length c0_1]) (t := 29) ?hr ?_; (case hd => rfl); (case hg => rfl); (case hr => first | (go_simp; done) | (go_simp; rfl)); intro gb367 hg w3 hbox hb; have n0_ := Aside0.mk (below_step (by repeat (first | (with_reducible first | exact HB.out | apply below_alloc | apply pw_below_drewN | apply below_drew1) | exact HB.out)) hb); have n1_ := Aside0.mk (hbox); have n2_ := Aside0.mk ((by rw [hg]; exact (below_size (by repeat (first | (with_reducible first | exact HB.out | apply below_alloc | apply pw_below_drewN | apply below_drew1) | exact HB.out))) : w.heap.size ≤ gb367)); have n3_ := Aside0.mk ((by rw [hg]; exact (below_size (by repeat (first | (with_reducible first | exact HB.out | apply below_alloc | apply pw_below_drewN | apply below_drew1) | exact HB.out))) : w.heap.size ≤ gb367)); clear HB; have HB := n0_; have BK367 := n1_; have GW367 := n2_; have GE367 := n3_; clear n0_ n1_ n2_ n3_; clear hb hbox hg) | ((with_reducible refine gate_dst (N := 2) rfl ?_); refine box_event ?hg (N := 2) ?hd (cs := #[.bool false, .slice none 0 0]) (t := 24) ?hr ?_; (case hd => rfl); (case hg => rfl); (case hr => first | (go_simp; done) | (go_simp; rfl)); intro gb368 hg w4 hbox hb; have n0_ := Aside0.mk (blk_below (g := gb367) (o := .cells #[.bool a0_0, .slice A0_1 l0_1.length c0_1] 29 (0, 0)) (by (with_reducible repeat (first | refine blk_drewN ?_ _ | refine blk_drew ?_ | refine blk_alloc ?_ _)); exact BK367.out) hb); have n1_ := Aside0.mk (below_step (by repeat (first | (with_reducible first | exact HB.out | apply below_alloc | apply pw_below_drewN | apply below_drew1 | refine below_set ?_ GE367.out) | exact HB.out)) hb); have n2_ := Aside0.mk (hbox); have n3_ := Aside0.mk ((by rw [hg]; exact (below_size (by repeat (first | (with_reducible first | exact HB.out | apply below_alloc | apply pw_below_drewN | apply below_drew1 | refine below_set ?_ GE367.out) | exact HB.out))) : w.heap.size ≤ gb368)); have n4_ := Aside0.mk ((by rw [hg]; exact (below_size (by repeat (first | (with_reducible first | exact HB.out | apply below_alloc | apply pw_below_drewN | apply below_drew1 | refine below_set ?_ GE367.out) | exact HB.out))) : w.heap.size ≤ gb368)); have n5_ := Aside0.mk ((by rw [hg]; exact Nat.ne_of_lt (blk_lt (g := gb367) (o := .cells #[.bool a0_0, .slice A0_1 l0_1.length c0_1] 29 (0, 0)) (by (with_reducible repeat (first | refine blk_drewN ?_ _ | refine blk_drew ?_ | refine blk_alloc ?_ _)); exact BK367.out)) : gb367 ≠ gb368)); have n6_ := Aside0.mk ((by rw [hg]; exact Nat.ne_of_gt (blk_lt (g := gb367) (o := .cells #[.bool a0_0, .slice A0_1 l0_1.length c0_1] 29 (0, 0)) (by (with_reducible repeat (first | refine blk_drewN ?_ _ | refine blk_drew ?_ | refine blk_alloc ?_ _)); exact BK367.out)) : gb368 ≠ gb367)); clear BK367; clear HB; have BK367 := n0_; have HB := n1_; have BK368 := n2_; have GW368 := n3_; have GE368 := n4_; have NB367_368 := n5_; have NB368_367 := n6_; clear n0_ n1_ n2_ n3_ n4_ n5_ n6_; clear hb hbox hg))
 have n0_ := Aside0.mk (blk_drew BK367.out)
 have n1_ := Aside0.mk (blk_drew BK368.out)
 have n2_ := Aside0.mk (below_drew1 HB.out)
 clear BK367
 clear BK368
 clear HB
 have BK367 := n0_
 have BK368 := n1_
 have HB := n2_
 clear n0_ n1_ n2_
 refine start_ (n := 7) (S := fun w' => w'.cell? ⟨gb367, 0, none⟩ = some (.bool a0_0) ∧ w'.cell? ⟨gb367, 1, none⟩ = some (.slice A0_1 l0_1.length c0_1)) (ds := []) z169 (by kernel_rfl) rfl rfl ⟨(blk_cell BK367.out 0).trans rfl, (blk_cell BK367.out 1).trans rfl⟩ (fun hHeld => ?_)
 generalize w4.drew = w5 at BK367 BK368 HB hHeld ⊢
 refine pure_ (i := 0) (N := some 3) (v := ?_) (a' := ?_) z170 rfl rfl (by kernel_rfl) (fun _ _ _ h => h) (Or.inl ⟨by rfl, ?_⟩) ?_ ?_
 rotate_left
 ·intro w'
  go_simp
  with_reducible rfl
 rotate_left
 ·simp only [Act.put, sA, sB, sC, i64_w, i32_w]
  rfl
 refine pure_ (i := 2) (N := some 5) (v := ?_) (a' := ?_) z171 rfl rfl (by kernel_rfl) (fun _ _ _ h => h) (Or.inl ⟨by rfl, ?_⟩) ?_ ?_
 rotate_left
 ·intro w'
  go_simp
  with_reducible rfl
 rotate_left
 ·simp only [Act.put, sA, sB, sC, i64_w, i32_w]
  rfl
 refine take_ (i := 1) (N := some 4) (v := ?_) (a' := ?_) z172 rfl rfl (by kernel_rfl) (fun _ _ _ h => h) (Or.inl ⟨by rfl, ?_⟩) hHeld ?_ ?_
 rotate_left
 ·rintro w' ⟨s0, s1⟩
  go_simp
  with_reducible rfl
 rotate_left
 ·simp only [Act.put, sA, sB, sC, i64_w, i32_w]
  rfl
 refine take_ (i := 3) (N := some 6) (v := ?_) (a' := ?_) z173 rfl rfl (by kernel_rfl) (fun _ _ _ h => h) (Or.inl ⟨by rfl, ?_⟩) hHeld ?_ ?_
 rotate_left
 ·rintro w' ⟨s0, s1⟩
  go_simp
  with_reducible rfl
 rotate_left
 ·simp only [Act.put, sA, sB, sC, i64_w, i32_w]
  rfl
 refine one_ (i := 4) (N := some 7) z174 rfl rfl (by kernel_rfl) (by decide) (fun K hK => ?_)
 refine goes_ Tryz.func25 (by kernel_rfl) rfl #[.slice A0_1 l0_1.length c0_1] (by rfl) rfl rfl (by (try simp only [List.map_toArray, List.map_cons, List.map_nil]); first | done | rfl | (simp only [List.length_drop, List.length_take]; rfl)) ?_
 with_reducible refine (spec_VaBytes.calls k (fun k_ => k_ < w.heap.size) _ _ l0_1 t369 _ ?side1 A2.out).mono ?_
 (case side1 => exact Kd.V_mk HC0_1.out (Kd.F_below (Kd.C_F (Kd.heap_int .u32) HR0_1.out) (by repeat (first | (with_reducible first | exact HB.out | apply below_alloc | apply pw_below_drewN | apply below_drew1 | refine below_set ?_ GE367.out | refine below_set ?_ GE368.out) | exact HB.out))))
 rintro e w6 ⟨v370, rfl, ho0, hb⟩
 refine ⟨_, rfl, ?_⟩
 have n0_ := Aside0.mk (Kd.R_lower (Kd.R_mono (ok' := fun k_ => True) ho0 (fun _ hk_ => trivial)) (below_size (by repeat (first | (with_reducible first | exact HB.out | apply below_alloc | apply pw_below_drewN | apply below_drew1 | refine below_set ?_ GE367.out | refine below_set ?_ GE368.out) | exact HB.out))))
 have n1_ := Aside0.mk (blk_below (g := gb367) (o := .cells #[.bool a0_0, .slice A0_1 l0_1.length c0_1] 29 (0, 0)) (by (with_reducible repeat (first | refine blk_drewN ?_ _ | refine blk_drew ?_ | refine blk_alloc ?_ _)); exact BK367.out) hb)
 have n2_ := Aside0.mk (blk_below (g := gb368) (o := .cells #[.bool false, .slice none 0 0] 24 (0, 0)) (by (with_reducible repeat (first | refine blk_drewN ?_ _ | refine blk_drew ?_ | refine blk_alloc ?_ _)); exact BK368.out) hb)
 have n3_ := Aside0.mk (below_step (by repeat (first | (with_reducible first | exact HB.out | apply below_alloc | apply pw_below_drewN | apply below_drew1 | refine below_set ?_ GE367.out | refine below_set ?_ GE368.out) | exact HB.out)) hb)
 clear BK367
 clear BK368
 clear HB
 have HO371 := n0_
 have BK367 := n1_
 have BK368 := n2_
 have HB := n3_
 clear n0_ n1_ n2_ n3_
 (try clear hb)
 (try clear hb2)
 (try clear hk)
 (try clear hi)
 (try clear ho0)
 obtain ⟨Ao7, co7, eo7⟩ := Kd.R_slice HO371.out
 (first | subst eo7 | (injection eo7 with f1_ f2_ f3_; have f4_ := f1_.symm; have f5_ := f3_.symm; clear f1_ f2_ f3_; subst f4_; subst f5_))
 refine hK.out _ _ ⟨(blk_cell BK367.out 0).trans rfl, (blk_cell BK367.out 1).trans rfl⟩ (fun hHeld => ?_)
 clear hK K
 refine norm_ (a' := ?_) ?_ ?_
 rotate_left
 ·show Act.put _ (some 7) _ = _
  simp only [Act.put, sA, sB, sC, i64_w, i32_w]
  rfl
 refine pure_ (i := 5) (N := some 8) (v := ?_) (a' := ?_) z175 rfl rfl (by kernel_rfl) (fun _ _ _ h => h) (Or.inl ⟨by rfl, ?_⟩) ?_ ?_
 rotate_left
 ·intro w'
  go_simp
  with_reducible rfl
 rotate_left
 ·simp only [Act.put, sA, sB, sC, i64_w, i32_w]
  rfl
 refine one_ (i := 6) (N := none) z176 rfl rfl (by kernel_rfl) (by decide) (fun K hK => ?_)
 have hs8 : w6.cell? ⟨gb368, 0, none⟩ = some (.bool false) := (blk_cell BK368.out 0).trans rfl
 have hfs8 := blk_frozen BK368.out 0
 have hns8_0 := NB367_368.out
 have hms8_0 := NB368_367.out
 have hs9 : w6.cell? ⟨gb368, 1, none⟩ = some (.slice none 0 0) := (blk_cell BK368.out 1).trans rfl
 have hfs9 := blk_frozen BK368.out 1
 have hns9_0 := NB367_368.out
 have hms9_0 := NB368_367.out
 refine skip_ (w1 := ?_) (by rfl) rfl ?_ ?_
 rotate_left
 ·go_simp
  rfl
 refine hK.out _ _ ⟨((cell_far (p := ⟨gb368, _, none⟩) NB367_368.out _).trans (((cell_far (p := ⟨gb368, _, none⟩) NB367_368.out _).trans (hHeld.1)))), ((cell_far (p := ⟨gb368, _, none⟩) NB367_368.out _).trans (((cell_far (p := ⟨gb368, _, none⟩) NB367_368.out _).trans (hHeld.2))))⟩ (fun hHeld => ?_)
 clear hK K
 refine done_ (by kernel_rfl) ?_
 try go_wp2
 refine bodyPost_ret (results_cell_row rfl _ _ gb368 24 #[.bool a0_0, .slice Ao7 t369.length co7] (0, 0) _ rfl (by (with_reducible repeat (first | refine blk_drewN ?_ _ | refine blk_drew ?_ | refine blk_alloc ?_ _)); refine blk_put (cs := #[.bool a0_0, .slice none 0 0]) ?_ 1 _ rfl; (with_reducible repeat (first | refine blk_drewN ?_ _ | refine blk_drew ?_ | refine blk_alloc ?_ _)); refine blk_put (cs := #[.bool false, .slice none 0 0]) ?_ 0 _ rfl; (with_reducible repeat (first | refine blk_drewN ?_ _ | refine blk_drew ?_ | refine blk_alloc ?_ _)); exact BK368.out) Tryz.underlying24 rfl (by kernel_rfl)) rfl ?_
 exact ⟨_, by first | rfl | (simp [errW_none, errW_some] <;> rfl) | (simp [*, errW_none, errW_some] <;> rfl), by (with_reducible repeat (first | apply Kd.R_alloc | apply Kd.R_drewN | apply Kd.R_drew)); exact Kd.R_mono (Kd.R_far (p := ⟨gb368, 1, none⟩) (Kd.R_far (p := ⟨gb368, 0, none⟩) (Kd.R_types HO371.out BK368.out (by decide)) (fun _ hk => hk.2) (.bool a0_0)) (fun _ hk => hk.2) (.slice Ao7 t369.length co7)) (fun _ hk => trivial), by repeat (first | (with_reducible first | exact HB.out | apply below_alloc | apply pw_below_drewN | apply below_drew1 | refine below_set ?_ GE367.out | refine below_set ?_ GE368.out) | exact HB.out)⟩
def spec_VaRatOf.f (k : Nat) (a0_0 : Bool) (l0_1 : List Int) (l0_2 : List Int) : Option (Bool × List Int × List Int) := (spec_VaBig.f k a0_0 l0_1).bind fun bt374 => ((spec_VaBytes.f k l0_2).bind fun t378 => (some (bt374.1, bt374.2, t378)))
theorem spec_VaRatOf.mono : ∀ a0 a1 a2 k, LeO (spec_VaRatOf.f k a0 a1 a2) (spec_VaRatOf.f (k + 1) a0 a1 a2) := by
 intro a0 a1 a2 k
 unfold spec_VaRatOf.f
 repeat' first
   | (with_reducible exact spec_VaBig.mono _ _ _)
   | (with_reducible exact spec_VaBytes.mono _ _)
   | (with_reducible exact LeO.refl _)
   | (with_reducible exact LeO.none _)
   | (with_reducible refine LeO.ite ?_ ?_)
   | (with_reducible refine LeO.bind ?_ (fun _ => ?_))
   | exact spec_VaBig.mono _ _ _
   | exact spec_VaBytes.mono _ _
   | exact LeO.none _
   | refine LeO.ite ?_ ?_
   | refine LeO.bind ?_ (fun _ => ?_)
def spec_VaRatOf.T1 : Bool × List (List Nat × List Nat) := (true, [([], []), ([0], [0]), ([1], [1]), ([], []), ([3], [3]), ([4, 2], [4]), ([2, 5], [2, 5]), ([6, 5, 0, 1, 2, 3, 4, 5, 6], [6])])
def spec_VaRatOf.B1 : List Nat := [0, 1, 3, 0, 8, 31, 63, 127]
theorem spec_VaRatOf.tab1 : rtab .any (opsOf Tryz.f8 1) = spec_VaRatOf.T1 := by kernel_rfl
theorem spec_VaRatOf.bits1 : waitsOk spec_VaRatOf.T1.2 spec_VaRatOf.B1 = true := by kernel_rfl
set_option maxHeartbeats 8000000 in
set_option maxRecDepth 100000 in
theorem spec_VaRatOf.calls (k : Nat) (a0_0 : Bool) (A0_1 : Option Addr) (c0_1 : Nat) (l0_1 : List Int) (A0_2 : Option Addr) (c0_2 : Nat) (l0_2 : List Int) (r1 : Bool) (r2 : List Int) (r3 : List Int) (w : World) (hr0_1 : Kd.C (Kd.int .u32) w A0_1 l0_1.length l0_1) (hc0_1 : l0_1.length ≤ c0_1) (hr0_2 : Kd.C (Kd.int .u32) w A0_2 l0_2.length l0_2) (hc0_2 : l0_2.length ≤ c0_2) (h : spec_VaRatOf.f k a0_0 l0_1 l0_2 = some (r1, r2, r3)) :
  Calls Tryz.prog 8 #[.agg #[.bool a0_0, .slice A0_1 l0_1.length c0_1, .slice A0_2 l0_2.length c0_2]] w fun e w' => ∃ v1_ v2_ : Value, e = .returned (.agg #[.bool r1, v1_, v2_]) ∧ Kd.R (Kd.int .u8) 5 w' w.heap.size (fun k_ => some k_ ≠ (v2_ : Value).ownBlock) v1_ r2 ∧ Kd.R (Kd.int .u8) 5 w' w.heap.size (fun k_ => some k_ ≠ (v1_ : Value).ownBlock) v2_ r3 ∧ Below w.heap.size w w' := by
 have hu33 := Tryz.underlying33
 have hu40 := Tryz.underlying40
 have hu29 := Tryz.underlying29
 have HR0_1 := Aside0.mk hr0_1
 have HC0_1 := Aside0.mk hc0_1
 clear hr0_1 hc0_1
 have HR0_2 := Aside0.mk hr0_2
 have HC0_2 := Aside0.mk hc0_2
 clear hr0_2 hc0_2
 have HB := Aside0.mk (Below.refl w.heap.size w)
 have H : ((spec_VaBig.f k a0_0 l0_1).bind fun bt374 => ((spec_VaBytes.f k l0_2).bind fun t378 => (some (bt374.1, bt374.2, t378)))) = some (r1, r2, r3) := h
 clear h
 replace H := Option.bind_eq_some_iff.mp H
 obtain ⟨⟨t374, t375⟩, A20, H⟩ := H
 replace H : ((spec_VaBytes.f k l0_2).bind fun t378 => (some (t374, t375, t378))) = some (r1, r2, r3) := H
 have A2 := Aside0.mk A20
 clear A20
 replace H := Option.bind_eq_some_iff.mp H
 obtain ⟨t378, A30, H⟩ := H
 replace H : (some (t374, t375, t378)) = some (r1, r2, r3) := H
 have A3 := Aside0.mk A30
 clear A30
 simp only [Option.some.injEq, Prod.mk.injEq] at H
 obtain ⟨rfl, rfl, rfl⟩ := H
 go_enter Tryz.func8, Tryz.ntmps8
 try go_wp2_with (first | ((with_reducible refine gate_dst (N := 1) rfl ?_); refine box_event ?hg (N := 1) ?hd (cs := #[.bool a0_0, .slice A0_1 l0_1.length c0_1, .slice A0_2 l0_2.length c0_2]) (t := 33) ?hr ?_; (case hd => rfl); (case hg => rfl); (case hr => first | (go_simp; done) | (go_simp; rfl)); intro gb372 hg w4 hbox hb; have n0_ := Aside0.mk (below_step (by repeat (first | (with_reducible first | exact HB.out | apply below_alloc | apply pw_below_drewN | apply below_drew1) | exact HB.out)) hb); have n1_ := Aside0.mk (hbox); have n2_ := Aside0.mk ((by rw [hg]; exact (below_size (by repeat (first | (with_reducible first | exact HB.out | apply below_alloc | apply pw_below_drewN | apply below_drew1) | exact HB.out))) : w.heap.size ≤ gb372)); have n3_ := Aside0.mk ((by rw [hg]; exact (below_size (by repeat (first | (with_reducible first | exact HB.out | apply below_alloc | apply pw_below_drewN | apply below_drew1) | exact HB.out))) : w.heap.size ≤ gb372)); clear HB; have HB := n0_; have BK372 := n1_; have GW372 := n2_; have GE372 := n3_; clear n0_ n1_ n2_ n3_; clear hb hbox hg) | ((with_reducible refine gate_dst (N := 2) rfl ?_); refine box_event ?hg (N := 2) ?hd (cs := #[.bool false, .slice none 0 0, .slice none 0 0]) (t := 40) ?hr ?_; (case hd => rfl); (case hg => rfl); (case hr => first | (go_simp; done) | (go_simp; rfl)); intro gb373 hg w5 hbox hb; have n0_ := Aside0.mk (blk_below (g := gb372) (o := .cells #[.bool a0_0, .slice A0_1 l0_1.length c0_1, .slice A0_2 l0_2.length c0_2] 33 (0, 0)) (by (with_reducible repeat (first | refine blk_drewN ?_ _ | refine blk_drew ?_ | refine blk_alloc ?_ _)); exact BK372.out) hb); have n1_ := Aside0.mk (below_step (by repeat (first | (with_reducible first | exact HB.out | apply below_alloc | apply pw_below_drewN | apply below_drew1 | refine below_set ?_ GE372.out) | exact HB.out)) hb); have n2_ := Aside0.mk (hbox); have n3_ := Aside0.mk ((by rw [hg]; exact (below_size (by repeat (first | (with_reducible first | exact HB.out | apply below_alloc | apply pw_below_drewN | apply below_drew1 | refine below_set ?_ GE372.out) | exact HB.out))) : w.heap.size ≤ gb373)); have n4_ := Aside0.mk ((by rw [hg]; exact (below_size (by repeat (first | (with_reducible first | exact HB.out | apply below_alloc | apply pw_below_drewN | apply below_drew1 | refine below_set ?_ GE372.out) | exact HB.out))) : w.heap.size ≤ gb373)); have n5_ := Aside0.mk ((by rw [hg]; exact Nat.ne_of_lt (blk_lt (g := gb372) (o := .cells #[.bool a0_0, .slice A0_1 l0_1.length c0_1, .slice A0_2 l0_2.length c0_2] 33 (0, 0)) (by (with_reducible repeat (first | refine blk_drewN ?_ _ | refine blk_drew ?_ | refine blk_alloc ?_ _)); exact BK372.out)) : gb372 ≠ gb373)); have n6_ := Aside0.mk ((by rw [hg]; exact Nat.ne_of_gt (blk_lt (g := gb372) (o := .cells #[.bool a0_0, .slice A0_1 l0_1.length c0_1, .slice A0_2 l0_2.length c0_2] 33 (0, 0)) (by (with_reducible repeat (first | refine blk_drewN ?_ _ | refine blk_drew ?_ | refine blk_alloc ?_ _)); exact BK372.out)) : gb373 ≠ gb372)); clear BK372; clear HB; have BK372 := n0_; have HB := n1_; have BK373 := n2_; have GW373 := n3_; have GE373 := n4_; have NB372_373 := n5_; have NB373_372 := n6_; clear n0_ n1_ n2_ n3_ n4_ n5_ n6_; clear hb hbox hg))
 have n0_ := Aside0.mk (blk_drew BK372.out)
 have n1_ := Aside0.mk (blk_drew BK373.out)
 have n2_ := Aside0.mk (below_drew1 HB.out)
 clear BK372
 clear BK373
 clear HB
 have BK372 := n0_
 have BK373 := n1_
 have HB := n2_
 clear n0_ n1_ n2_
 refine start_ (n := 8) (S := fun w' => w'.cell? ⟨gb372, 0, none⟩ = some (.bool a0_0) ∧ w'.cell? ⟨gb372, 1, none⟩ = some (.slice A0_1 l0_1.length c0_1) ∧ w'.cell? ⟨gb372, 2, none⟩ = some (.slice A0_2 l0_2.length c0_2)) (ds := []) z177 (by kernel_rfl) rfl rfl ⟨(blk_cell BK372.out 0).trans rfl, (blk_cell BK372.out 1).trans rfl, (blk_cell BK372.out 2).trans rfl⟩ (fun hHeld => ?_); refine with_tabW spec_VaRatOf.tab1 spec_VaRatOf.bits1 (fun HT_ HW_ => ?_)
 generalize w5.drew = w6 at BK372 BK373 HB hHeld ⊢
 refine pure_ (i := 0) (N := some 3) (v := ?_) (a' := ?_) z178 rfl rfl (any_of HT_.out (by kernel_rfl)) (fun _ _ _ h => h) (Or.inl ⟨by rfl, ?_⟩) ?_ ?_
 rotate_left
 ·intro w'
  go_simp
  with_reducible rfl
 rotate_left
 ·simp only [Act.put, sA, sB, sC, i64_w, i32_w]
  rfl
 refine pure_ (i := 3) (N := some 6) (v := ?_) (a' := ?_) z179 rfl rfl (any_of HT_.out (by kernel_rfl)) (fun _ _ _ h => h) (Or.inl ⟨by rfl, ?_⟩) ?_ ?_
 rotate_left
 ·intro w'
  go_simp
  with_reducible rfl
 rotate_left
 ·simp only [Act.put, sA, sB, sC, i64_w, i32_w]
  rfl
 refine take_ (i := 1) (N := some 4) (v := ?_) (a' := ?_) z180 rfl rfl (take_ofW HT_.out HW_.out (by kernel_rfl)) (fun _ _ _ h => h) (Or.inl ⟨by rfl, ?_⟩) hHeld ?_ ?_
 rotate_left
 ·rintro w' ⟨s0, s1, s2⟩
  go_simp
  with_reducible rfl
 rotate_left
 ·simp only [Act.put, sA, sB, sC, i64_w, i32_w]
  rfl
 refine take_ (i := 4) (N := some 7) (v := ?_) (a' := ?_) z181 rfl rfl (take_ofW HT_.out HW_.out (by kernel_rfl)) (fun _ _ _ h => h) (Or.inl ⟨by rfl, ?_⟩) hHeld ?_ ?_
 rotate_left
 ·rintro w' ⟨s0, s1, s2⟩
  go_simp
  with_reducible rfl
 rotate_left
 ·simp only [Act.put, sA, sB, sC, i64_w, i32_w]
  rfl
 refine one_ (i := 2) (N := some 5) z182 rfl rfl (one_of HT_.out (by kernel_rfl)) (by decide) (fun K hK => ?_)
 refine goes_ Tryz.func24 (by kernel_rfl) rfl #[.agg #[.bool a0_0, .slice A0_1 l0_1.length c0_1]] (by rfl) rfl rfl (by (try simp only [List.map_toArray, List.map_cons, List.map_nil]); first | done | rfl | (simp only [List.length_drop, List.length_take]; rfl)) ?_
 with_reducible refine (spec_VaBig.calls k a0_0 _ _ l0_1 t374 t375 _ ?side1 ?side2 A2.out).mono ?_
 (case side1 => repeat (first | exact (Kd.C_below HR0_1.out HB.out) | (with_reducible refine Kd.C_alloc ?_ _) | (with_reducible refine Kd.C_drewN ?_ _) | (with_reducible refine Kd.C_drew ?_)))
 (case side2 => exact HC0_1.out)
 rintro e w7 ⟨v376, rfl, ho0, hb⟩
 refine ⟨_, rfl, ?_⟩
 have n0_ := Aside0.mk (Kd.R_lower ho0 (below_size (by repeat (first | (with_reducible first | exact HB.out | apply below_alloc | apply pw_below_drewN | apply below_drew1 | refine below_set ?_ GE372.out | refine below_set ?_ GE373.out) | exact HB.out))))
 have n1_ := Aside0.mk (blk_below (g := gb372) (o := .cells #[.bool a0_0, .slice A0_1 l0_1.length c0_1, .slice A0_2 l0_2.length c0_2] 33 (0, 0)) (by (with_reducible repeat (first | refine blk_drewN ?_ _ | refine blk_drew ?_ | refine blk_alloc ?_ _)); exact BK372.out) hb)
 have n2_ := Aside0.mk (blk_below (g := gb373) (o := .cells #[.bool false, .slice none 0 0, .slice none 0 0] 40 (0, 0)) (by (with_reducible repeat (first | refine blk_drewN ?_ _ | refine blk_drew ?_ | refine blk_alloc ?_ _)); exact BK373.out) hb)
 have n3_ := Aside0.mk (below_step (by repeat (first | (with_reducible first | exact HB.out | apply below_alloc | apply pw_below_drewN | apply below_drew1 | refine below_set ?_ GE372.out | refine below_set ?_ GE373.out) | exact HB.out)) hb)
 clear BK372
 clear BK373
 clear HB
 have HO377 := n0_
 have BK372 := n1_
 have BK373 := n2_
 have HB := n3_
 clear n0_ n1_ n2_ n3_
 (try clear hb)
 (try clear hb2)
 (try clear hk)
 (try clear hi)
 (try clear ho0)
 refine hK.out _ _ ⟨(blk_cell BK372.out 0).trans rfl, (blk_cell BK372.out 1).trans rfl, (blk_cell BK372.out 2).trans rfl⟩ (fun hHeld => ?_)
 clear hK K
 refine norm_ (a' := ?_) ?_ ?_
 rotate_left
 ·show Act.put _ (some 5) _ = _
  simp only [Act.put, sA, sB, sC, i64_w, i32_w]
  rfl
 refine one_ (i := 5) (N := some 8) z183 rfl rfl (one_of HT_.out (by kernel_rfl)) (by decide) (fun K hK => ?_)
 refine goes_ Tryz.func25 (by kernel_rfl) rfl #[.slice A0_2 l0_2.length c0_2] (by rfl) rfl rfl (by (try simp only [List.map_toArray, List.map_cons, List.map_nil]); first | done | rfl | (simp only [List.length_drop, List.length_take]; rfl)) ?_
 with_reducible refine (spec_VaBytes.calls k (fun k_ => k_ < w.heap.size) _ _ l0_2 t378 _ ?side1 A3.out).mono ?_
 (case side1 => exact Kd.V_mk HC0_2.out (Kd.F_below (Kd.C_F (Kd.heap_int .u32) HR0_2.out) (by repeat (first | (with_reducible first | exact HB.out | apply below_alloc | apply pw_below_drewN | apply below_drew1 | refine below_set ?_ GE372.out | refine below_set ?_ GE373.out) | exact HB.out))))
 rintro e w8 ⟨v379, rfl, ho0, hb⟩
 refine ⟨_, rfl, ?_⟩
 have n0_ := Aside0.mk (Kd.R_elder' (by (with_reducible repeat (first | apply Kd.R_alloc | apply Kd.R_drewN | apply Kd.R_drew)); exact HO377.out) (Kd.R_base ho0) hb)
 have n1_ := Aside0.mk (Kd.R_lower (Kd.R_new' (Kd.R_mono (ok' := fun k_ => True) ho0 (fun _ hk_ => trivial)) (Kd.R_lt (by (with_reducible repeat (first | apply Kd.R_alloc | apply Kd.R_drewN | apply Kd.R_drew)); exact HO377.out))) (below_size (by repeat (first | (with_reducible first | exact HB.out | apply below_alloc | apply pw_below_drewN | apply below_drew1 | refine below_set ?_ GE372.out | refine below_set ?_ GE373.out) | exact HB.out))))
 have n2_ := Aside0.mk (blk_below (g := gb372) (o := .cells #[.bool a0_0, .slice A0_1 l0_1.length c0_1, .slice A0_2 l0_2.length c0_2] 33 (0, 0)) (by (with_reducible repeat (first | refine blk_drewN ?_ _ | refine blk_drew ?_ | refine blk_alloc ?_ _)); exact BK372.out) hb)
 have n3_ := Aside0.mk (blk_below (g := gb373) (o := .cells #[.bool false, .slice none 0 0, .slice none 0 0] 40 (0, 0)) (by (with_reducible repeat (first | refine blk_drewN ?_ _ | refine blk_drew ?_ | refine blk_alloc ?_ _)); exact BK373.out) hb)
 have n4_ := Aside0.mk (below_step (by repeat (first | (with_reducible first | exact HB.out | apply below_alloc | apply pw_below_drewN | apply below_drew1 | refine below_set ?_ GE372.out | refine below_set ?_ GE373.out) | exact HB.out)) hb)
 clear HO377
 clear BK372
 clear BK373
 clear HB
 have HO377 := n0_
 have HO380 := n1_
 have BK372 := n2_
 have BK373 := n3_
 have HB := n4_
 clear n0_ n1_ n2_ n3_ n4_
 (try clear hb)
 (try clear hb2)
 (try clear hk)
 (try clear hi)
 (try clear ho0)
 obtain ⟨Ao9, co9, eo9⟩ := Kd.R_slice HO380.out
 (first | subst eo9 | (injection eo9 with f1_ f2_ f3_; have f4_ := f1_.symm; have f5_ := f3_.symm; clear f1_ f2_ f3_; subst f4_; subst f5_))
 obtain ⟨Ao10, co10, eo10⟩ := Kd.R_slice HO377.out
 (first | subst eo10 | (injection eo10 with f1_ f2_ f3_; have f4_ := f1_.symm; have f5_ := f3_.symm; clear f1_ f2_ f3_; subst f4_; subst f5_))
 refine hK.out _ _ ⟨(blk_cell BK372.out 0).trans rfl, (blk_cell BK372.out 1).trans rfl, (blk_cell BK372.out 2).trans rfl⟩ (fun hHeld => ?_)
 clear hK K
 refine norm_ (a' := ?_) ?_ ?_
 rotate_left
 ·show Act.put _ (some 8) _ = _
  simp only [Act.put, sA, sB, sC, i64_w, i32_w]
  rfl
 refine pure_ (i := 6) (N := some 9) (v := ?_) (a' := ?_) z184 rfl rfl (any_of HT_.out (by kernel_rfl)) (fun _ _ _ h => h) (Or.inl ⟨by rfl, ?_⟩) ?_ ?_
 rotate_left
 ·intro w'
  go_simp
  with_reducible rfl
 rotate_left
 ·simp only [Act.put, sA, sB, sC, i64_w, i32_w]
  rfl
 refine one_ (i := 7) (N := none) z185 rfl rfl (one_of HT_.out (by kernel_rfl)) (by decide) (fun K hK => ?_)
 have hs11 : w8.cell? ⟨gb373, 0, none⟩ = some (.bool false) := (blk_cell BK373.out 0).trans rfl
 have hfs11 := blk_frozen BK373.out 0
 have hns11_0 := NB372_373.out
 have hms11_0 := NB373_372.out
 have hs12 : w8.cell? ⟨gb373, 1, none⟩ = some (.slice none 0 0) := (blk_cell BK373.out 1).trans rfl
 have hfs12 := blk_frozen BK373.out 1
 have hns12_0 := NB372_373.out
 have hms12_0 := NB373_372.out
 have hs13 : w8.cell? ⟨gb373, 2, none⟩ = some (.slice none 0 0) := (blk_cell BK373.out 2).trans rfl
 have hfs13 := blk_frozen BK373.out 2
 have hns13_0 := NB372_373.out
 have hms13_0 := NB373_372.out
 refine skip_ (w1 := ?_) (by rfl) rfl ?_ ?_
 rotate_left
 ·go_simp
  rfl
 refine hK.out _ _ ⟨((cell_far (p := ⟨gb373, _, none⟩) NB372_373.out _).trans (((cell_far (p := ⟨gb373, _, none⟩) NB372_373.out _).trans (((cell_far (p := ⟨gb373, _, none⟩) NB372_373.out _).trans (hHeld.1)))))), ((cell_far (p := ⟨gb373, _, none⟩) NB372_373.out _).trans (((cell_far (p := ⟨gb373, _, none⟩) NB372_373.out _).trans (((cell_far (p := ⟨gb373, _, none⟩) NB372_373.out _).trans (hHeld.2.1)))))), ((cell_far (p := ⟨gb373, _, none⟩) NB372_373.out _).trans (((cell_far (p := ⟨gb373, _, none⟩) NB372_373.out _).trans (((cell_far (p := ⟨gb373, _, none⟩) NB372_373.out _).trans (hHeld.2.2))))))⟩ (fun hHeld => ?_)
 clear hK K
 refine done_ (done_of HT_.out (by kernel_rfl)) ?_
 try go_wp2
 refine bodyPost_ret (results_cell_row rfl _ _ gb373 40 #[.bool t374, .slice Ao10 t375.length co10, .slice Ao9 t378.length co9] (0, 0) _ rfl (by (with_reducible repeat (first | refine blk_drewN ?_ _ | refine blk_drew ?_ | refine blk_alloc ?_ _)); refine blk_put (cs := #[.bool t374, .slice Ao10 t375.length co10, .slice none 0 0]) ?_ 2 _ rfl; (with_reducible repeat (first | refine blk_drewN ?_ _ | refine blk_drew ?_ | refine blk_alloc ?_ _)); refine blk_put (cs := #[.bool t374, .slice none 0 0, .slice none 0 0]) ?_ 1 _ rfl; (with_reducible repeat (first | refine blk_drewN ?_ _ | refine blk_drew ?_ | refine blk_alloc ?_ _)); refine blk_put (cs := #[.bool false, .slice none 0 0, .slice none 0 0]) ?_ 0 _ rfl; (with_reducible repeat (first | refine blk_drewN ?_ _ | refine blk_drew ?_ | refine blk_alloc ?_ _)); exact BK373.out) Tryz.underlying40 rfl (by kernel_rfl)) rfl ?_
 exact ⟨_, _, by first | rfl | (simp [errW_none, errW_some] <;> rfl) | (simp [*, errW_none, errW_some] <;> rfl), by (with_reducible repeat (first | apply Kd.R_alloc | apply Kd.R_drewN | apply Kd.R_drew)); exact Kd.R_mono (Kd.R_far (p := ⟨gb373, 2, none⟩) (Kd.R_far (p := ⟨gb373, 1, none⟩) (Kd.R_far (p := ⟨gb373, 0, none⟩) (Kd.R_types HO377.out BK373.out (by decide)) (fun _ hk => hk.2) (.bool t374)) (fun _ hk => hk.2) (.slice Ao10 t375.length co10)) (fun _ hk => hk.2) (.slice Ao9 t378.length co9)) (fun _ hk => hk.1.2), by (with_reducible repeat (first | apply Kd.R_alloc | apply Kd.R_drewN | apply Kd.R_drew)); exact Kd.R_mono (Kd.R_far (p := ⟨gb373, 2, none⟩) (Kd.R_far (p := ⟨gb373, 1, none⟩) (Kd.R_far (p := ⟨gb373, 0, none⟩) (Kd.R_types HO380.out BK373.out (by decide)) (fun _ hk => hk.2) (.bool t374)) (fun _ hk => hk.2) (.slice Ao10 t375.length co10)) (fun _ hk => hk.2) (.slice Ao9 t378.length co9)) (fun _ hk => hk.1.2), by repeat (first | (with_reducible first | exact HB.out | apply below_alloc | apply pw_below_drewN | apply below_drew1 | refine below_set ?_ GE372.out | refine below_set ?_ GE373.out) | exact HB.out)⟩
end Go.Proofs.YtgamldefngehlaaGreatDoor.PFnVaFieldDecimals
