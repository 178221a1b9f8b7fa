/- The reference's functions: part G. -/
import Derived.Test.YthocmhkafgpgbaaGreatDoorM29
import Derived.Test.YthocmhkafgpgbaaGreatDoorM33
namespace Go.Proofs.YthocmhkafgpgbaaGreatDoor.PFnVaFieldFixed
open Go.RowKit Go.Proofs.YthocmhkafgpgbaaGreatDoorW.PrintWords Go.Proofs.YthocmhkafgpgbaaGreatDoorW.PrintLast Go.Proofs.YthocmhkafgpgbaaGreatDoorW.PrintMore
attribute [local go_sem] max2_int min2_int max_two min_two max_three min_three max_four min_four
set_option linter.unusedVariables false
set_option linter.unusedSimpArgs false
def spec_VaBig.f (k : Nat) (a0_0 : Bool) (l0_1 : List Int) : Option (Bool × List Int) := (spec_VaBytes.f k l0_1).bind fun t431 => (some (a0_0, t431))
theorem spec_VaBig.mono : ∀ a0 a1 k, LeO (spec_VaBig.f k a0 a1) (spec_VaBig.f (k + 1) a0 a1) := by
 intro a0 a1 k
 unfold spec_VaBig.f
 repeat' first
   | (with_reducible exact spec_VaBytes.mono _ _)
   | (with_reducible exact LeO.refl _)
   | (with_reducible exact LeO.none _)
   | (with_reducible refine LeO.ite ?_ ?_)
   | (with_reducible refine LeO.bind ?_ (fun _ => ?_))
   | exact spec_VaBytes.mono _ _
   | exact LeO.none _
   | refine LeO.ite ?_ ?_
   | refine LeO.bind ?_ (fun _ => ?_)
set_option maxHeartbeats 8000000 in
set_option maxRecDepth 100000 in
theorem spec_VaBig.calls (k : Nat) (a0_0 : Bool) (A0_1 : Option Addr) (c0_1 : Nat) (l0_1 : List Int) (r1 : Bool) (r2 : List Int) (w : World) (hr0_1 : Kd.C (Kd.int .u32) w A0_1 l0_1.length l0_1) (hc0_1 : l0_1.length ≤ c0_1) (h : spec_VaBig.f k a0_0 l0_1 = some (r1, r2)) :
  Calls Tryz.prog 28 #[.agg #[.bool a0_0, .slice A0_1 l0_1.length c0_1]] w fun e w' => ∃ v1_ : Value, e = .returned (.agg #[.bool r1, v1_]) ∧ Kd.R (Kd.int .u8) 5 w' w.heap.size (fun _ => True) v1_ r2 ∧ Below w.heap.size w w' := by
 have hu30 := Tryz.underlying30
 have hu24 := Tryz.underlying24
 have HR0_1 := Aside0.mk hr0_1
 have HC0_1 := Aside0.mk hc0_1
 clear hr0_1 hc0_1
 have HB := Aside0.mk (Below.refl w.heap.size w)
 have H : ((spec_VaBytes.f k l0_1).bind fun t431 => (some (a0_0, t431))) = some (r1, r2) := h
 clear h
 replace H := Option.bind_eq_some_iff.mp H
 obtain ⟨t431, A20, H⟩ := H
 replace H : (some (a0_0, t431)) = some (r1, r2) := H
 have A2 := Aside0.mk A20
 clear A20
 simp only [Option.some.injEq, Prod.mk.injEq] at H
 obtain ⟨rfl, rfl⟩ := H
 go_enter Tryz.func28, Tryz.ntmps28
 try go_wp2_with (first | ((with_reducible refine gate_dst (N := 1) rfl ?_); refine box_event ?hg (N := 1) ?hd (cs := #[.bool a0_0, .slice A0_1 l0_1.length c0_1]) (t := 30) ?hr ?_; (case hd => rfl); (case hg => rfl); (case hr => first | (go_simp; done) | (go_simp; rfl)); intro gb429 hg w3 hbox hb; have n0_ := Aside0.mk (below_step (by repeat (first | (with_reducible first | exact HB.out | apply below_alloc | apply pw_below_drewN | apply below_drew1) | exact HB.out)) hb); have n1_ := Aside0.mk (hbox); have n2_ := Aside0.mk ((by rw [hg]; exact (below_size (by repeat (first | (with_reducible first | exact HB.out | apply below_alloc | apply pw_below_drewN | apply below_drew1) | exact HB.out))) : w.heap.size ≤ gb429)); have n3_ := Aside0.mk ((by rw [hg]; exact (below_size (by repeat (first | (with_reducible first | exact HB.out | apply below_alloc | apply pw_below_drewN | apply below_drew1) | exact HB.out))) : w.heap.size ≤ gb429)); clear HB; have HB := n0_; have BK429 := n1_; have GW429 := n2_; have GE429 := n3_; clear n0_ n1_ n2_ n3_; clear hb hbox hg) | ((with_reducible refine gate_dst (N := 2) rfl ?_); refine box_event ?hg (N := 2) ?hd (cs := #[.bool false, .slice none 0 0]) (t := 24) ?hr ?_; (case hd => rfl); (case hg => rfl); (case hr => first | (go_simp; done) | (go_simp; rfl)); intro gb430 hg w4 hbox hb; have n0_ := Aside0.mk (blk_below (g := gb429) (o := .cells #[.bool a0_0, .slice A0_1 l0_1.length c0_1] 30 (0, 0)) (by (with_reducible repeat (first | refine blk_drewN ?_ _ | refine blk_drew ?_ | refine blk_alloc ?_ _)); exact BK429.out) hb); have n1_ := Aside0.mk (below_step (by repeat (first | (with_reducible first | exact HB.out | apply below_alloc | apply pw_below_drewN | apply below_drew1 | refine below_set ?_ GE429.out) | exact HB.out)) hb); have n2_ := Aside0.mk (hbox); have n3_ := Aside0.mk ((by rw [hg]; exact (below_size (by repeat (first | (with_reducible first | exact HB.out | apply below_alloc | apply pw_below_drewN | apply below_drew1 | refine below_set ?_ GE429.out) | exact HB.out))) : w.heap.size ≤ gb430)); have n4_ := Aside0.mk ((by rw [hg]; exact (below_size (by repeat (first | (with_reducible first | exact HB.out | apply below_alloc | apply pw_below_drewN | apply below_drew1 | refine below_set ?_ GE429.out) | exact HB.out))) : w.heap.size ≤ gb430)); have n5_ := Aside0.mk ((by rw [hg]; exact Nat.ne_of_lt (blk_lt (g := gb429) (o := .cells #[.bool a0_0, .slice A0_1 l0_1.length c0_1] 30 (0, 0)) (by (with_reducible repeat (first | refine blk_drewN ?_ _ | refine blk_drew ?_ | refine blk_alloc ?_ _)); exact BK429.out)) : gb429 ≠ gb430)); have n6_ := Aside0.mk ((by rw [hg]; exact Nat.ne_of_gt (blk_lt (g := gb429) (o := .cells #[.bool a0_0, .slice A0_1 l0_1.length c0_1] 30 (0, 0)) (by (with_reducible repeat (first | refine blk_drewN ?_ _ | refine blk_drew ?_ | refine blk_alloc ?_ _)); exact BK429.out)) : gb430 ≠ gb429)); clear BK429; clear HB; have BK429 := n0_; have HB := n1_; have BK430 := n2_; have GW430 := n3_; have GE430 := n4_; have NB429_430 := n5_; have NB430_429 := n6_; clear n0_ n1_ n2_ n3_ n4_ n5_ n6_; clear hb hbox hg))
 have n0_ := Aside0.mk (blk_drew BK429.out)
 have n1_ := Aside0.mk (blk_drew BK430.out)
 have n2_ := Aside0.mk (below_drew1 HB.out)
 clear BK429
 clear BK430
 clear HB
 have BK429 := n0_
 have BK430 := n1_
 have HB := n2_
 clear n0_ n1_ n2_
 refine start_ (n := 7) (S := fun w' => w'.cell? ⟨gb429, 0, none⟩ = some (.bool a0_0) ∧ w'.cell? ⟨gb429, 1, none⟩ = some (.slice A0_1 l0_1.length c0_1)) (ds := []) z191 (by kernel_rfl) rfl rfl ⟨(blk_cell BK429.out 0).trans rfl, (blk_cell BK429.out 1).trans rfl⟩ (fun hHeld => ?_)
 generalize w4.drew = w5 at BK429 BK430 HB hHeld ⊢
 refine pure_ (i := 0) (N := some 3) (v := ?_) (a' := ?_) z192 rfl rfl (by kernel_rfl) (fun _ _ _ h => h) (Or.inl ⟨by rfl, ?_⟩) ?_ ?_
 rotate_left
 ·intro w'
  go_simp
  with_reducible rfl
 rotate_left
 ·simp only [Act.put, sA, sB, sC, i64_w, i32_w]
  rfl
 refine pure_ (i := 2) (N := some 5) (v := ?_) (a' := ?_) z193 rfl rfl (by kernel_rfl) (fun _ _ _ h => h) (Or.inl ⟨by rfl, ?_⟩) ?_ ?_
 rotate_left
 ·intro w'
  go_simp
  with_reducible rfl
 rotate_left
 ·simp only [Act.put, sA, sB, sC, i64_w, i32_w]
  rfl
 refine take_ (i := 1) (N := some 4) (v := ?_) (a' := ?_) z194 rfl rfl (by kernel_rfl) (fun _ _ _ h => h) (Or.inl ⟨by rfl, ?_⟩) hHeld ?_ ?_
 rotate_left
 ·rintro w' ⟨s0, s1⟩
  go_simp
  with_reducible rfl
 rotate_left
 ·simp only [Act.put, sA, sB, sC, i64_w, i32_w]
  rfl
 refine take_ (i := 3) (N := some 6) (v := ?_) (a' := ?_) z195 rfl rfl (by kernel_rfl) (fun _ _ _ h => h) (Or.inl ⟨by rfl, ?_⟩) hHeld ?_ ?_
 rotate_left
 ·rintro w' ⟨s0, s1⟩
  go_simp
  with_reducible rfl
 rotate_left
 ·simp only [Act.put, sA, sB, sC, i64_w, i32_w]
  rfl
 refine one_ (i := 4) (N := some 7) z196 rfl rfl (by kernel_rfl) (by decide) (fun K hK => ?_)
 refine goes_ Tryz.func29 (by kernel_rfl) rfl #[.slice A0_1 l0_1.length c0_1] (by rfl) rfl rfl (by (try simp only [List.map_toArray, List.map_cons, List.map_nil]); first | done | rfl | (simp only [List.length_drop, List.length_take]; rfl)) ?_
 with_reducible refine (spec_VaBytes.calls k (fun k_ => k_ < w.heap.size) _ _ l0_1 t431 _ ?side1 A2.out).mono ?_
 (case side1 => exact Kd.V_mk HC0_1.out (Kd.F_below (Kd.C_F (Kd.heap_int .u32) HR0_1.out) (by repeat (first | (with_reducible first | exact HB.out | apply below_alloc | apply pw_below_drewN | apply below_drew1 | refine below_set ?_ GE429.out | refine below_set ?_ GE430.out) | exact HB.out))))
 rintro e w6 ⟨v432, rfl, ho0, hb⟩
 refine ⟨_, rfl, ?_⟩
 have n0_ := Aside0.mk (Kd.R_lower (Kd.R_mono (ok' := fun k_ => True) ho0 (fun _ hk_ => trivial)) (below_size (by repeat (first | (with_reducible first | exact HB.out | apply below_alloc | apply pw_below_drewN | apply below_drew1 | refine below_set ?_ GE429.out | refine below_set ?_ GE430.out) | exact HB.out))))
 have n1_ := Aside0.mk (blk_below (g := gb429) (o := .cells #[.bool a0_0, .slice A0_1 l0_1.length c0_1] 30 (0, 0)) (by (with_reducible repeat (first | refine blk_drewN ?_ _ | refine blk_drew ?_ | refine blk_alloc ?_ _)); exact BK429.out) hb)
 have n2_ := Aside0.mk (blk_below (g := gb430) (o := .cells #[.bool false, .slice none 0 0] 24 (0, 0)) (by (with_reducible repeat (first | refine blk_drewN ?_ _ | refine blk_drew ?_ | refine blk_alloc ?_ _)); exact BK430.out) hb)
 have n3_ := Aside0.mk (below_step (by repeat (first | (with_reducible first | exact HB.out | apply below_alloc | apply pw_below_drewN | apply below_drew1 | refine below_set ?_ GE429.out | refine below_set ?_ GE430.out) | exact HB.out)) hb)
 clear BK429
 clear BK430
 clear HB
 have HO433 := n0_
 have BK429 := n1_
 have BK430 := n2_
 have HB := n3_
 clear n0_ n1_ n2_ n3_
 (try clear hb)
 (try clear hb2)
 (try clear hk)
 (try clear hi)
 (try clear ho0)
 obtain ⟨Ao7, co7, eo7⟩ := Kd.R_slice HO433.out
 (first | subst eo7 | (injection eo7 with f1_ f2_ f3_; have f4_ := f1_.symm; have f5_ := f3_.symm; clear f1_ f2_ f3_; subst f4_; subst f5_))
 refine hK.out _ _ ⟨(blk_cell BK429.out 0).trans rfl, (blk_cell BK429.out 1).trans rfl⟩ (fun hHeld => ?_)
 clear hK K
 refine norm_ (a' := ?_) ?_ ?_
 rotate_left
 ·show Act.put _ (some 7) _ = _
  simp only [Act.put, sA, sB, sC, i64_w, i32_w]
  rfl
 refine pure_ (i := 5) (N := some 8) (v := ?_) (a' := ?_) z197 rfl rfl (by kernel_rfl) (fun _ _ _ h => h) (Or.inl ⟨by rfl, ?_⟩) ?_ ?_
 rotate_left
 ·intro w'
  go_simp
  with_reducible rfl
 rotate_left
 ·simp only [Act.put, sA, sB, sC, i64_w, i32_w]
  rfl
 refine one_ (i := 6) (N := none) z198 rfl rfl (by kernel_rfl) (by decide) (fun K hK => ?_)
 have hs8 : w6.cell? ⟨gb430, 0, none⟩ = some (.bool false) := (blk_cell BK430.out 0).trans rfl
 have hfs8 := blk_frozen BK430.out 0
 have hns8_0 := NB429_430.out
 have hms8_0 := NB430_429.out
 have hs9 : w6.cell? ⟨gb430, 1, none⟩ = some (.slice none 0 0) := (blk_cell BK430.out 1).trans rfl
 have hfs9 := blk_frozen BK430.out 1
 have hns9_0 := NB429_430.out
 have hms9_0 := NB430_429.out
 refine skip_ (w1 := ?_) (by rfl) rfl ?_ ?_
 rotate_left
 ·go_simp
  rfl
 refine hK.out _ _ ⟨((cell_far (p := ⟨gb430, _, none⟩) NB429_430.out _).trans (((cell_far (p := ⟨gb430, _, none⟩) NB429_430.out _).trans (hHeld.1)))), ((cell_far (p := ⟨gb430, _, none⟩) NB429_430.out _).trans (((cell_far (p := ⟨gb430, _, none⟩) NB429_430.out _).trans (hHeld.2))))⟩ (fun hHeld => ?_)
 clear hK K
 refine done_ (by kernel_rfl) ?_
 try go_wp2
 refine bodyPost_ret (results_cell_row rfl _ _ gb430 24 #[.bool a0_0, .slice Ao7 t431.length co7] (0, 0) _ rfl (by (with_reducible repeat (first | refine blk_drewN ?_ _ | refine blk_drew ?_ | refine blk_alloc ?_ _)); refine blk_put (cs := #[.bool a0_0, .slice none 0 0]) ?_ 1 _ rfl; (with_reducible repeat (first | refine blk_drewN ?_ _ | refine blk_drew ?_ | refine blk_alloc ?_ _)); refine blk_put (cs := #[.bool false, .slice none 0 0]) ?_ 0 _ rfl; (with_reducible repeat (first | refine blk_drewN ?_ _ | refine blk_drew ?_ | refine blk_alloc ?_ _)); exact BK430.out) Tryz.underlying24 rfl (by kernel_rfl)) rfl ?_
 exact ⟨_, by first | rfl | (simp [errW_none, errW_some] <;> rfl) | (simp [*, errW_none, errW_some] <;> rfl), by (with_reducible repeat (first | apply Kd.R_alloc | apply Kd.R_drewN | apply Kd.R_drew)); exact Kd.R_mono (Kd.R_far (p := ⟨gb430, 1, none⟩) (Kd.R_far (p := ⟨gb430, 0, none⟩) (Kd.R_types HO433.out BK430.out (by decide)) (fun _ hk => hk.2) (.bool a0_0)) (fun _ hk => hk.2) (.slice Ao7 t431.length co7)) (fun _ hk => trivial), by repeat (first | (with_reducible first | exact HB.out | apply below_alloc | apply pw_below_drewN | apply below_drew1 | refine below_set ?_ GE429.out | refine below_set ?_ GE430.out) | exact HB.out)⟩
def spec_VaRatOf.f (k : Nat) (a0_0 : Bool) (l0_1 : List Int) (l0_2 : List Int) : Option (Bool × List Int × List Int) := (spec_VaBig.f k a0_0 l0_1).bind fun bt436 => ((spec_VaBytes.f k l0_2).bind fun t440 => (some (bt436.1, bt436.2, t440)))
theorem spec_VaRatOf.mono : ∀ a0 a1 a2 k, LeO (spec_VaRatOf.f k a0 a1 a2) (spec_VaRatOf.f (k + 1) a0 a1 a2) := by
 intro a0 a1 a2 k
 unfold spec_VaRatOf.f
 repeat' first
   | (with_reducible exact spec_VaBig.mono _ _ _)
   | (with_reducible exact spec_VaBytes.mono _ _)
   | (with_reducible exact LeO.refl _)
   | (with_reducible exact LeO.none _)
   | (with_reducible refine LeO.ite ?_ ?_)
   | (with_reducible refine LeO.bind ?_ (fun _ => ?_))
   | exact spec_VaBig.mono _ _ _
   | exact spec_VaBytes.mono _ _
   | exact LeO.none _
   | refine LeO.ite ?_ ?_
   | refine LeO.bind ?_ (fun _ => ?_)
def spec_VaRatOf.T1 : Bool × List (List Nat × List Nat) := (true, [([], []), ([0], [0]), ([1], [1]), ([], []), ([3], [3]), ([4, 2], [4]), ([2, 5], [2, 5]), ([6, 5, 0, 1, 2, 3, 4, 5, 6], [6])])
def spec_VaRatOf.B1 : List Nat := [0, 1, 3, 0, 8, 31, 63, 127]
theorem spec_VaRatOf.tab1 : rtab .any (opsOf Tryz.f9 1) = spec_VaRatOf.T1 := by kernel_rfl
theorem spec_VaRatOf.bits1 : waitsOk spec_VaRatOf.T1.2 spec_VaRatOf.B1 = true := by kernel_rfl
set_option maxHeartbeats 8000000 in
set_option maxRecDepth 100000 in
theorem spec_VaRatOf.calls (k : Nat) (a0_0 : Bool) (A0_1 : Option Addr) (c0_1 : Nat) (l0_1 : List Int) (A0_2 : Option Addr) (c0_2 : Nat) (l0_2 : List Int) (r1 : Bool) (r2 : List Int) (r3 : List Int) (w : World) (hr0_1 : Kd.C (Kd.int .u32) w A0_1 l0_1.length l0_1) (hc0_1 : l0_1.length ≤ c0_1) (hr0_2 : Kd.C (Kd.int .u32) w A0_2 l0_2.length l0_2) (hc0_2 : l0_2.length ≤ c0_2) (h : spec_VaRatOf.f k a0_0 l0_1 l0_2 = some (r1, r2, r3)) :
  Calls Tryz.prog 9 #[.agg #[.bool a0_0, .slice A0_1 l0_1.length c0_1, .slice A0_2 l0_2.length c0_2]] w fun e w' => ∃ v1_ v2_ : Value, e = .returned (.agg #[.bool r1, v1_, v2_]) ∧ Kd.R (Kd.int .u8) 5 w' w.heap.size (fun k_ => some k_ ≠ (v2_ : Value).ownBlock) v1_ r2 ∧ Kd.R (Kd.int .u8) 5 w' w.heap.size (fun k_ => some k_ ≠ (v1_ : Value).ownBlock) v2_ r3 ∧ Below w.heap.size w w' := by
 have hu34 := Tryz.underlying34
 have hu43 := Tryz.underlying43
 have hu30 := Tryz.underlying30
 have HR0_1 := Aside0.mk hr0_1
 have HC0_1 := Aside0.mk hc0_1
 clear hr0_1 hc0_1
 have HR0_2 := Aside0.mk hr0_2
 have HC0_2 := Aside0.mk hc0_2
 clear hr0_2 hc0_2
 have HB := Aside0.mk (Below.refl w.heap.size w)
 have H : ((spec_VaBig.f k a0_0 l0_1).bind fun bt436 => ((spec_VaBytes.f k l0_2).bind fun t440 => (some (bt436.1, bt436.2, t440)))) = some (r1, r2, r3) := h
 clear h
 replace H := Option.bind_eq_some_iff.mp H
 obtain ⟨⟨t436, t437⟩, A20, H⟩ := H
 replace H : ((spec_VaBytes.f k l0_2).bind fun t440 => (some (t436, t437, t440))) = some (r1, r2, r3) := H
 have A2 := Aside0.mk A20
 clear A20
 replace H := Option.bind_eq_some_iff.mp H
 obtain ⟨t440, A30, H⟩ := H
 replace H : (some (t436, t437, t440)) = some (r1, r2, r3) := H
 have A3 := Aside0.mk A30
 clear A30
 simp only [Option.some.injEq, Prod.mk.injEq] at H
 obtain ⟨rfl, rfl, rfl⟩ := H
 go_enter Tryz.func9, Tryz.ntmps9
 try go_wp2_with (first | ((with_reducible refine gate_dst (N := 1) rfl ?_); refine box_event ?hg (N := 1) ?hd (cs := #[.bool a0_0, .slice A0_1 l0_1.length c0_1, .slice A0_2 l0_2.length c0_2]) (t := 34) ?hr ?_; (case hd => rfl); (case hg => rfl); (case hr => first | (go_simp; done) | (go_simp; rfl)); intro gb434 hg w4 hbox hb; have n0_ := Aside0.mk (below_step (by repeat (first | (with_reducible first | exact HB.out | apply below_alloc | apply pw_below_drewN | apply below_drew1) | exact HB.out)) hb); have n1_ := Aside0.mk (hbox); have n2_ := Aside0.mk ((by rw [hg]; exact (below_size (by repeat (first | (with_reducible first | exact HB.out | apply below_alloc | apply pw_below_drewN | apply below_drew1) | exact HB.out))) : w.heap.size ≤ gb434)); have n3_ := Aside0.mk ((by rw [hg]; exact (below_size (by repeat (first | (with_reducible first | exact HB.out | apply below_alloc | apply pw_below_drewN | apply below_drew1) | exact HB.out))) : w.heap.size ≤ gb434)); clear HB; have HB := n0_; have BK434 := n1_; have GW434 := n2_; have GE434 := n3_; clear n0_ n1_ n2_ n3_; clear hb hbox hg) | ((with_reducible refine gate_dst (N := 2) rfl ?_); refine box_event ?hg (N := 2) ?hd (cs := #[.bool false, .slice none 0 0, .slice none 0 0]) (t := 43) ?hr ?_; (case hd => rfl); (case hg => rfl); (case hr => first | (go_simp; done) | (go_simp; rfl)); intro gb435 hg w5 hbox hb; have n0_ := Aside0.mk (blk_below (g := gb434) (o := .cells #[.bool a0_0, .slice A0_1 l0_1.length c0_1, .slice A0_2 l0_2.length c0_2] 34 (0, 0)) (by (with_reducible repeat (first | refine blk_drewN ?_ _ | refine blk_drew ?_ | refine blk_alloc ?_ _)); exact BK434.out) hb); have n1_ := Aside0.mk (below_step (by repeat (first | (with_reducible first | exact HB.out | apply below_alloc | apply pw_below_drewN | apply below_drew1 | refine below_set ?_ GE434.out) | exact HB.out)) hb); have n2_ := Aside0.mk (hbox); have n3_ := Aside0.mk ((by rw [hg]; exact (below_size (by repeat (first | (with_reducible first | exact HB.out | apply below_alloc | apply pw_below_drewN | apply below_drew1 | refine below_set ?_ GE434.out) | exact HB.out))) : w.heap.size ≤ gb435)); have n4_ := Aside0.mk ((by rw [hg]; exact (below_size (by repeat (first | (with_reducible first | exact HB.out | apply below_alloc | apply pw_below_drewN | apply below_drew1 | refine below_set ?_ GE434.out) | exact HB.out))) : w.heap.size ≤ gb435)); have n5_ := Aside0.mk ((by rw [hg]; exact Nat.ne_of_lt (blk_lt (g := gb434) (o := .cells #[.bool a0_0, .slice A0_1 l0_1.length c0_1, .slice A0_2 l0_2.length c0_2] 34 (0, 0)) (by (with_reducible repeat (first | refine blk_drewN ?_ _ | refine blk_drew ?_ | refine blk_alloc ?_ _)); exact BK434.out)) : gb434 ≠ gb435)); have n6_ := Aside0.mk ((by rw [hg]; exact Nat.ne_of_gt (blk_lt (g := gb434) (o := .cells #[.bool a0_0, .slice A0_1 l0_1.length c0_1, .slice A0_2 l0_2.length c0_2] 34 (0, 0)) (by (with_reducible repeat (first | refine blk_drewN ?_ _ | refine blk_drew ?_ | refine blk_alloc ?_ _)); exact BK434.out)) : gb435 ≠ gb434)); clear BK434; clear HB; have BK434 := n0_; have HB := n1_; have BK435 := n2_; have GW435 := n3_; have GE435 := n4_; have NB434_435 := n5_; have NB435_434 := n6_; clear n0_ n1_ n2_ n3_ n4_ n5_ n6_; clear hb hbox hg))
 have n0_ := Aside0.mk (blk_drew BK434.out)
 have n1_ := Aside0.mk (blk_drew BK435.out)
 have n2_ := Aside0.mk (below_drew1 HB.out)
 clear BK434
 clear BK435
 clear HB
 have BK434 := n0_
 have BK435 := n1_
 have HB := n2_
 clear n0_ n1_ n2_
 refine start_ (n := 8) (S := fun w' => w'.cell? ⟨gb434, 0, none⟩ = some (.bool a0_0) ∧ w'.cell? ⟨gb434, 1, none⟩ = some (.slice A0_1 l0_1.length c0_1) ∧ w'.cell? ⟨gb434, 2, none⟩ = some (.slice A0_2 l0_2.length c0_2)) (ds := []) z199 (by kernel_rfl) rfl rfl ⟨(blk_cell BK434.out 0).trans rfl, (blk_cell BK434.out 1).trans rfl, (blk_cell BK434.out 2).trans rfl⟩ (fun hHeld => ?_); refine with_tabW spec_VaRatOf.tab1 spec_VaRatOf.bits1 (fun HT_ HW_ => ?_)
 generalize w5.drew = w6 at BK434 BK435 HB hHeld ⊢
 refine pure_ (i := 0) (N := some 3) (v := ?_) (a' := ?_) z200 rfl rfl (any_of HT_.out (by kernel_rfl)) (fun _ _ _ h => h) (Or.inl ⟨by rfl, ?_⟩) ?_ ?_
 rotate_left
 ·intro w'
  go_simp
  with_reducible rfl
 rotate_left
 ·simp only [Act.put, sA, sB, sC, i64_w, i32_w]
  rfl
 refine pure_ (i := 3) (N := some 6) (v := ?_) (a' := ?_) z201 rfl rfl (any_of HT_.out (by kernel_rfl)) (fun _ _ _ h => h) (Or.inl ⟨by rfl, ?_⟩) ?_ ?_
 rotate_left
 ·intro w'
  go_simp
  with_reducible rfl
 rotate_left
 ·simp only [Act.put, sA, sB, sC, i64_w, i32_w]
  rfl
 refine take_ (i := 1) (N := some 4) (v := ?_) (a' := ?_) z202 rfl rfl (take_ofW HT_.out HW_.out (by kernel_rfl)) (fun _ _ _ h => h) (Or.inl ⟨by rfl, ?_⟩) hHeld ?_ ?_
 rotate_left
 ·rintro w' ⟨s0, s1, s2⟩
  go_simp
  with_reducible rfl
 rotate_left
 ·simp only [Act.put, sA, sB, sC, i64_w, i32_w]
  rfl
 refine take_ (i := 4) (N := some 7) (v := ?_) (a' := ?_) z203 rfl rfl (take_ofW HT_.out HW_.out (by kernel_rfl)) (fun _ _ _ h => h) (Or.inl ⟨by rfl, ?_⟩) hHeld ?_ ?_
 rotate_left
 ·rintro w' ⟨s0, s1, s2⟩
  go_simp
  with_reducible rfl
 rotate_left
 ·simp only [Act.put, sA, sB, sC, i64_w, i32_w]
  rfl
 refine one_ (i := 2) (N := some 5) z204 rfl rfl (one_of HT_.out (by kernel_rfl)) (by decide) (fun K hK => ?_)
 refine goes_ Tryz.func28 (by kernel_rfl) rfl #[.agg #[.bool a0_0, .slice A0_1 l0_1.length c0_1]] (by rfl) rfl rfl (by (try simp only [List.map_toArray, List.map_cons, List.map_nil]); first | done | rfl | (simp only [List.length_drop, List.length_take]; rfl)) ?_
 with_reducible refine (spec_VaBig.calls k a0_0 _ _ l0_1 t436 t437 _ ?side1 ?side2 A2.out).mono ?_
 (case side1 => repeat (first | exact (Kd.C_below HR0_1.out HB.out) | (with_reducible refine Kd.C_alloc ?_ _) | (with_reducible refine Kd.C_drewN ?_ _) | (with_reducible refine Kd.C_drew ?_)))
 (case side2 => exact HC0_1.out)
 rintro e w7 ⟨v438, rfl, ho0, hb⟩
 refine ⟨_, rfl, ?_⟩
 have n0_ := Aside0.mk (Kd.R_lower ho0 (below_size (by repeat (first | (with_reducible first | exact HB.out | apply below_alloc | apply pw_below_drewN | apply below_drew1 | refine below_set ?_ GE434.out | refine below_set ?_ GE435.out) | exact HB.out))))
 have n1_ := Aside0.mk (blk_below (g := gb434) (o := .cells #[.bool a0_0, .slice A0_1 l0_1.length c0_1, .slice A0_2 l0_2.length c0_2] 34 (0, 0)) (by (with_reducible repeat (first | refine blk_drewN ?_ _ | refine blk_drew ?_ | refine blk_alloc ?_ _)); exact BK434.out) hb)
 have n2_ := Aside0.mk (blk_below (g := gb435) (o := .cells #[.bool false, .slice none 0 0, .slice none 0 0] 43 (0, 0)) (by (with_reducible repeat (first | refine blk_drewN ?_ _ | refine blk_drew ?_ | refine blk_alloc ?_ _)); exact BK435.out) hb)
 have n3_ := Aside0.mk (below_step (by repeat (first | (with_reducible first | exact HB.out | apply below_alloc | apply pw_below_drewN | apply below_drew1 | refine below_set ?_ GE434.out | refine below_set ?_ GE435.out) | exact HB.out)) hb)
 clear BK434
 clear BK435
 clear HB
 have HO439 := n0_
 have BK434 := n1_
 have BK435 := n2_
 have HB := n3_
 clear n0_ n1_ n2_ n3_
 (try clear hb)
 (try clear hb2)
 (try clear hk)
 (try clear hi)
 (try clear ho0)
 refine hK.out _ _ ⟨(blk_cell BK434.out 0).trans rfl, (blk_cell BK434.out 1).trans rfl, (blk_cell BK434.out 2).trans rfl⟩ (fun hHeld => ?_)
 clear hK K
 refine norm_ (a' := ?_) ?_ ?_
 rotate_left
 ·show Act.put _ (some 5) _ = _
  simp only [Act.put, sA, sB, sC, i64_w, i32_w]
  rfl
 refine one_ (i := 5) (N := some 8) z205 rfl rfl (one_of HT_.out (by kernel_rfl)) (by decide) (fun K hK => ?_)
 refine goes_ Tryz.func29 (by kernel_rfl) rfl #[.slice A0_2 l0_2.length c0_2] (by rfl) rfl rfl (by (try simp only [List.map_toArray, List.map_cons, List.map_nil]); first | done | rfl | (simp only [List.length_drop, List.length_take]; rfl)) ?_
 with_reducible refine (spec_VaBytes.calls k (fun k_ => k_ < w.heap.size) _ _ l0_2 t440 _ ?side1 A3.out).mono ?_
 (case side1 => exact Kd.V_mk HC0_2.out (Kd.F_below (Kd.C_F (Kd.heap_int .u32) HR0_2.out) (by repeat (first | (with_reducible first | exact HB.out | apply below_alloc | apply pw_below_drewN | apply below_drew1 | refine below_set ?_ GE434.out | refine below_set ?_ GE435.out) | exact HB.out))))
 rintro e w8 ⟨v441, rfl, ho0, hb⟩
 refine ⟨_, rfl, ?_⟩
 have n0_ := Aside0.mk (Kd.R_elder' (by (with_reducible repeat (first | apply Kd.R_alloc | apply Kd.R_drewN | apply Kd.R_drew)); exact HO439.out) (Kd.R_base ho0) hb)
 have n1_ := Aside0.mk (Kd.R_lower (Kd.R_new' (Kd.R_mono (ok' := fun k_ => True) ho0 (fun _ hk_ => trivial)) (Kd.R_lt (by (with_reducible repeat (first | apply Kd.R_alloc | apply Kd.R_drewN | apply Kd.R_drew)); exact HO439.out))) (below_size (by repeat (first | (with_reducible first | exact HB.out | apply below_alloc | apply pw_below_drewN | apply below_drew1 | refine below_set ?_ GE434.out | refine below_set ?_ GE435.out) | exact HB.out))))
 have n2_ := Aside0.mk (blk_below (g := gb434) (o := .cells #[.bool a0_0, .slice A0_1 l0_1.length c0_1, .slice A0_2 l0_2.length c0_2] 34 (0, 0)) (by (with_reducible repeat (first | refine blk_drewN ?_ _ | refine blk_drew ?_ | refine blk_alloc ?_ _)); exact BK434.out) hb)
 have n3_ := Aside0.mk (blk_below (g := gb435) (o := .cells #[.bool false, .slice none 0 0, .slice none 0 0] 43 (0, 0)) (by (with_reducible repeat (first | refine blk_drewN ?_ _ | refine blk_drew ?_ | refine blk_alloc ?_ _)); exact BK435.out) hb)
 have n4_ := Aside0.mk (below_step (by repeat (first | (with_reducible first | exact HB.out | apply below_alloc | apply pw_below_drewN | apply below_drew1 | refine below_set ?_ GE434.out | refine below_set ?_ GE435.out) | exact HB.out)) hb)
 clear HO439
 clear BK434
 clear BK435
 clear HB
 have HO439 := n0_
 have HO442 := n1_
 have BK434 := n2_
 have BK435 := n3_
 have HB := n4_
 clear n0_ n1_ n2_ n3_ n4_
 (try clear hb)
 (try clear hb2)
 (try clear hk)
 (try clear hi)
 (try clear ho0)
 obtain ⟨Ao9, co9, eo9⟩ := Kd.R_slice HO442.out
 (first | subst eo9 | (injection eo9 with f1_ f2_ f3_; have f4_ := f1_.symm; have f5_ := f3_.symm; clear f1_ f2_ f3_; subst f4_; subst f5_))
 obtain ⟨Ao10, co10, eo10⟩ := Kd.R_slice HO439.out
 (first | subst eo10 | (injection eo10 with f1_ f2_ f3_; have f4_ := f1_.symm; have f5_ := f3_.symm; clear f1_ f2_ f3_; subst f4_; subst f5_))
 refine hK.out _ _ ⟨(blk_cell BK434.out 0).trans rfl, (blk_cell BK434.out 1).trans rfl, (blk_cell BK434.out 2).trans rfl⟩ (fun hHeld => ?_)
 clear hK K
 refine norm_ (a' := ?_) ?_ ?_
 rotate_left
 ·show Act.put _ (some 8) _ = _
  simp only [Act.put, sA, sB, sC, i64_w, i32_w]
  rfl
 refine pure_ (i := 6) (N := some 9) (v := ?_) (a' := ?_) z206 rfl rfl (any_of HT_.out (by kernel_rfl)) (fun _ _ _ h => h) (Or.inl ⟨by rfl, ?_⟩) ?_ ?_
 rotate_left
 ·intro w'
  go_simp
  with_reducible rfl
 rotate_left
 ·simp only [Act.put, sA, sB, sC, i64_w, i32_w]
  rfl
 refine one_ (i := 7) (N := none) z207 rfl rfl (one_of HT_.out (by kernel_rfl)) (by decide) (fun K hK => ?_)
 have hs11 : w8.cell? ⟨gb435, 0, none⟩ = some (.bool false) := (blk_cell BK435.out 0).trans rfl
 have hfs11 := blk_frozen BK435.out 0
 have hns11_0 := NB434_435.out
 have hms11_0 := NB435_434.out
 have hs12 : w8.cell? ⟨gb435, 1, none⟩ = some (.slice none 0 0) := (blk_cell BK435.out 1).trans rfl
 have hfs12 := blk_frozen BK435.out 1
 have hns12_0 := NB434_435.out
 have hms12_0 := NB435_434.out
 have hs13 : w8.cell? ⟨gb435, 2, none⟩ = some (.slice none 0 0) := (blk_cell BK435.out 2).trans rfl
 have hfs13 := blk_frozen BK435.out 2
 have hns13_0 := NB434_435.out
 have hms13_0 := NB435_434.out
 refine skip_ (w1 := ?_) (by rfl) rfl ?_ ?_
 rotate_left
 ·go_simp
  rfl
 refine hK.out _ _ ⟨((cell_far (p := ⟨gb435, _, none⟩) NB434_435.out _).trans (((cell_far (p := ⟨gb435, _, none⟩) NB434_435.out _).trans (((cell_far (p := ⟨gb435, _, none⟩) NB434_435.out _).trans (hHeld.1)))))), ((cell_far (p := ⟨gb435, _, none⟩) NB434_435.out _).trans (((cell_far (p := ⟨gb435, _, none⟩) NB434_435.out _).trans (((cell_far (p := ⟨gb435, _, none⟩) NB434_435.out _).trans (hHeld.2.1)))))), ((cell_far (p := ⟨gb435, _, none⟩) NB434_435.out _).trans (((cell_far (p := ⟨gb435, _, none⟩) NB434_435.out _).trans (((cell_far (p := ⟨gb435, _, none⟩) NB434_435.out _).trans (hHeld.2.2))))))⟩ (fun hHeld => ?_)
 clear hK K
 refine done_ (done_of HT_.out (by kernel_rfl)) ?_
 try go_wp2
 refine bodyPost_ret (results_cell_row rfl _ _ gb435 43 #[.bool t436, .slice Ao10 t437.length co10, .slice Ao9 t440.length co9] (0, 0) _ rfl (by (with_reducible repeat (first | refine blk_drewN ?_ _ | refine blk_drew ?_ | refine blk_alloc ?_ _)); refine blk_put (cs := #[.bool t436, .slice Ao10 t437.length co10, .slice none 0 0]) ?_ 2 _ rfl; (with_reducible repeat (first | refine blk_drewN ?_ _ | refine blk_drew ?_ | refine blk_alloc ?_ _)); refine blk_put (cs := #[.bool t436, .slice none 0 0, .slice none 0 0]) ?_ 1 _ rfl; (with_reducible repeat (first | refine blk_drewN ?_ _ | refine blk_drew ?_ | refine blk_alloc ?_ _)); refine blk_put (cs := #[.bool false, .slice none 0 0, .slice none 0 0]) ?_ 0 _ rfl; (with_reducible repeat (first | refine blk_drewN ?_ _ | refine blk_drew ?_ | refine blk_alloc ?_ _)); exact BK435.out) Tryz.underlying43 rfl (by kernel_rfl)) rfl ?_
 exact ⟨_, _, by first | rfl | (simp [errW_none, errW_some] <;> rfl) | (simp [*, errW_none, errW_some] <;> rfl), by (with_reducible repeat (first | apply Kd.R_alloc | apply Kd.R_drewN | apply Kd.R_drew)); exact Kd.R_mono (Kd.R_far (p := ⟨gb435, 2, none⟩) (Kd.R_far (p := ⟨gb435, 1, none⟩) (Kd.R_far (p := ⟨gb435, 0, none⟩) (Kd.R_types HO439.out BK435.out (by decide)) (fun _ hk => hk.2) (.bool t436)) (fun _ hk => hk.2) (.slice Ao10 t437.length co10)) (fun _ hk => hk.2) (.slice Ao9 t440.length co9)) (fun _ hk => hk.1.2), by (with_reducible repeat (first | apply Kd.R_alloc | apply Kd.R_drewN | apply Kd.R_drew)); exact Kd.R_mono (Kd.R_far (p := ⟨gb435, 2, none⟩) (Kd.R_far (p := ⟨gb435, 1, none⟩) (Kd.R_far (p := ⟨gb435, 0, none⟩) (Kd.R_types HO442.out BK435.out (by decide)) (fun _ hk => hk.2) (.bool t436)) (fun _ hk => hk.2) (.slice Ao10 t437.length co10)) (fun _ hk => hk.2) (.slice Ao9 t440.length co9)) (fun _ hk => hk.1.2), by repeat (first | (with_reducible first | exact HB.out | apply below_alloc | apply pw_below_drewN | apply below_drew1 | refine below_set ?_ GE434.out | refine below_set ?_ GE435.out) | exact HB.out)⟩
end Go.Proofs.YthocmhkafgpgbaaGreatDoor.PFnVaFieldFixed
