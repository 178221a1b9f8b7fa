/- The reference's functions: part H. -/
import Derived.Test.YtgamldefngehlaaGreatDoorM35
import Derived.Test.YtgamldefngehlaaGreatDoorM39
namespace Go.Proofs.YtgamldefngehlaaGreatDoor.PFnVaFieldDecimals
open Go.RowKit Go.Proofs.YtgamldefngehlaaGreatDoorW.PrintWords Go.Proofs.YtgamldefngehlaaGreatDoorW.PrintLast Go.Proofs.YtgamldefngehlaaGreatDoorW.PrintMore
attribute [local go_sem] max2_int min2_int max_two min_two max_three min_three max_four min_four
set_option linter.unusedVariables false
set_option linter.unusedSimpArgs false
def spec_Whole_Cmp.j0 : Nat → Bool → Bool → List Int → Bool → List Int → Option (Int)
 | 0, _, _, _, _, _ => none
 | k + 1, x5, x445000, x445001, x446000, x446001 => if x5 = true then (some (-1)) else (if (x445000 != x446000) = true then (some 1) else (if x445000 = true then ((spec_NatCmp.f k x446001 x445001).bind fun t446 => (some t446)) else ((spec_NatCmp.f k x445001 x446001).bind fun t447 => (some t447))))
def spec_Whole_Cmp.f (k : Nat) (a0_0 : Bool) (l0_1 : List Int) (a1_0 : Bool) (l1_1 : List Int) : Option (Int) := if (a0_0 != a1_0) = true then (spec_Whole_Cmp.j0 k a0_0 a0_0 l0_1 a1_0 l1_1) else (spec_Whole_Cmp.j0 k false a0_0 l0_1 a1_0 l1_1)
theorem spec_Whole_Cmp.mono_l : ∀ k, (∀ y0 y1 y2 y3 y4, LeO (spec_Whole_Cmp.j0 k y0 y1 y2 y3 y4) (spec_Whole_Cmp.j0 (k + 1) y0 y1 y2 y3 y4))
 | 0 => fun _ _ _ _ _ r h => by simp [spec_Whole_Cmp.j0] at h
 | k + 1 => by
  have ih0 := spec_Whole_Cmp.mono_l k
  ·intro y0 y1 y2 y3 y4
   unfold spec_Whole_Cmp.j0
   repeat' first
   | (with_reducible exact ih0 _ _ _ _ _)
   | (with_reducible exact spec_NatCmp.mono _ _ _)
   | (with_reducible exact LeO.refl _)
   | (with_reducible exact LeO.none _)
   | (with_reducible refine LeO.ite ?_ ?_)
   | (with_reducible refine LeO.bind ?_ (fun _ => ?_))
   | exact ih0 _ _ _ _ _
   | exact spec_NatCmp.mono _ _ _
   | exact LeO.none _
   | refine LeO.ite ?_ ?_
   | refine LeO.bind ?_ (fun _ => ?_)
theorem spec_Whole_Cmp.mono : ∀ a0 a1 a2 a3 k, LeO (spec_Whole_Cmp.f k a0 a1 a2 a3) (spec_Whole_Cmp.f (k + 1) a0 a1 a2 a3) := by
 intro a0 a1 a2 a3 k
 have ih0 := spec_Whole_Cmp.mono_l k
 unfold spec_Whole_Cmp.f
 repeat' first
   | (with_reducible exact ih0 _ _ _ _ _)
   | (with_reducible exact spec_NatCmp.mono _ _ _)
   | (with_reducible exact LeO.refl _)
   | (with_reducible exact LeO.none _)
   | (with_reducible refine LeO.ite ?_ ?_)
   | (with_reducible refine LeO.bind ?_ (fun _ => ?_))
   | exact ih0 _ _ _ _ _
   | exact spec_NatCmp.mono _ _ _
   | exact LeO.none _
   | refine LeO.ite ?_ ?_
   | refine LeO.bind ?_ (fun _ => ?_)
set_option maxHeartbeats 8000000 in
set_option maxRecDepth 100000 in
theorem spec_Whole_Cmp.calls (k : Nat) (a0_0 : Bool) (A0_1 : Option Addr) (c0_1 : Nat) (l0_1 : List Int) (a1_0 : Bool) (A1_1 : Option Addr) (c1_1 : Nat) (l1_1 : List Int) (r : Int) (w : World) (hr0_1 : Kd.C (Kd.int .u32) w A0_1 l0_1.length l0_1) (hc0_1 : l0_1.length ≤ c0_1) (hr1_1 : Kd.C (Kd.int .u32) w A1_1 l1_1.length l1_1) (hc1_1 : l1_1.length ≤ c1_1) (h : spec_Whole_Cmp.f k a0_0 l0_1 a1_0 l1_1 = some r) :
  Calls Tryz.prog 55 #[.agg #[.bool a0_0, .slice A0_1 l0_1.length c0_1], .agg #[.bool a1_0, .slice A1_1 l1_1.length c1_1]] w fun e w' => e = .returned (.int .i64 r) ∧ Below w.heap.size w w' := by
 have hu29 := Tryz.underlying29
 have HR0_1 := Aside0.mk hr0_1
 have HC0_1 := Aside0.mk hc0_1
 clear hr0_1 hc0_1
 have HR1_1 := Aside0.mk hr1_1
 have HC1_1 := Aside0.mk hc1_1
 clear hr1_1 hc1_1
 have HB := Aside0.mk (Below.refl w.heap.size w)
 have H : (if (a0_0 != a1_0) = true then (spec_Whole_Cmp.j0 k a0_0 a0_0 l0_1 a1_0 l1_1) else (spec_Whole_Cmp.j0 k false a0_0 l0_1 a1_0 l1_1)) = some r := h
 clear h
 have HC3 := Aside0.mk H
 clear H
 go_enter Tryz.func55, Tryz.ntmps55
 go_upto_region 1 with (first | ((with_reducible refine gate_dst (N := 2) rfl ?_); refine box_event ?hg (N := 2) ?hd (cs := #[.bool a0_0, .slice A0_1 l0_1.length c0_1]) (t := 29) ?hr ?_; (case hd => rfl); (case hg => rfl); (case hr => first | (go_simp; done) | (go_simp; rfl)); intro gb444 hg w4 hbox hb; have n0_ := Aside0.mk (below_step (by repeat (first | (with_reducible first | exact HB.out | apply below_alloc | apply pw_below_drewN | apply below_drew1) | exact HB.out)) hb); have n1_ := Aside0.mk (hbox); have n2_ := Aside0.mk ((by rw [hg]; exact (below_size (by repeat (first | (with_reducible first | exact HB.out | apply below_alloc | apply pw_below_drewN | apply below_drew1) | exact HB.out))) : w.heap.size ≤ gb444)); have n3_ := Aside0.mk ((by rw [hg]; exact (below_size (by repeat (first | (with_reducible first | exact HB.out | apply below_alloc | apply pw_below_drewN | apply below_drew1) | exact HB.out))) : w.heap.size ≤ gb444)); clear HB; have HB := n0_; have BK444 := n1_; have GW444 := n2_; have GE444 := n3_; clear n0_ n1_ n2_ n3_; clear hb hbox hg) | ((with_reducible refine gate_dst (N := 3) rfl ?_); refine box_event ?hg (N := 3) ?hd (cs := #[.bool a1_0, .slice A1_1 l1_1.length c1_1]) (t := 29) ?hr ?_; (case hd => rfl); (case hg => rfl); (case hr => first | (go_simp; done) | (go_simp; rfl)); intro gb445 hg w5 hbox hb; have n0_ := Aside0.mk (blk_below (g := gb444) (o := .cells #[.bool a0_0, .slice A0_1 l0_1.length c0_1] 29 (0, 0)) (by (with_reducible repeat (first | refine blk_drewN ?_ _ | refine blk_drew ?_ | refine blk_alloc ?_ _)); exact BK444.out) hb); have n1_ := Aside0.mk (below_step (by repeat (first | (with_reducible first | exact HB.out | apply below_alloc | apply pw_below_drewN | apply below_drew1 | refine below_set ?_ GE444.out) | exact HB.out)) hb); have n2_ := Aside0.mk (hbox); have n3_ := Aside0.mk ((by rw [hg]; exact (below_size (by repeat (first | (with_reducible first | exact HB.out | apply below_alloc | apply pw_below_drewN | apply below_drew1 | refine below_set ?_ GE444.out) | exact HB.out))) : w.heap.size ≤ gb445)); have n4_ := Aside0.mk ((by rw [hg]; exact (below_size (by repeat (first | (with_reducible first | exact HB.out | apply below_alloc | apply pw_below_drewN | apply below_drew1 | refine below_set ?_ GE444.out) | exact HB.out))) : w.heap.size ≤ gb445)); have n5_ := Aside0.mk ((by rw [hg]; exact Nat.ne_of_lt (blk_lt (g := gb444) (o := .cells #[.bool a0_0, .slice A0_1 l0_1.length c0_1] 29 (0, 0)) (by (with_reducible repeat (first | refine blk_drewN ?_ _ | refine blk_drew ?_ | refine blk_alloc ?_ _)); exact BK444.out)) : gb444 ≠ gb445)); have n6_ := Aside0.mk ((by rw [hg]; exact Nat.ne_of_gt (blk_lt (g := gb444) (o := .cells #[.bool a0_0, .slice A0_1 l0_1.length c0_1] 29 (0, 0)) (by (with_reducible repeat (first | refine blk_drewN ?_ _ | refine blk_drew ?_ | refine blk_alloc ?_ _)); exact BK444.out)) : gb445 ≠ gb444)); clear BK444; clear HB; have BK444 := n0_; have HB := n1_; have BK445 := n2_; have GW445 := n3_; have GE445 := n4_; have NB444_445 := n5_; have NB445_444 := n6_; clear n0_ n1_ n2_ n3_ n4_ n5_ n6_; clear hb hbox hg))
 (try simp only [Act.put, sA, sB, sC])
 go_cut [5] (fun v5 wc => ∃ (kq : Nat) (x5_2 : Bool), v5 = .bool x5_2 ∧ Aside0 (spec_Whole_Cmp.j0 kq x5_2 a0_0 l0_1 a1_0 l1_1 = some r) ∧ Aside0 (kq ≤ k) ∧ Aside0 (wc.heap[gb444]? = some (.cells #[.bool a0_0, (.slice A0_1 l0_1.length c0_1)] 29 (0, 0))) ∧ Aside0 (wc.heap[gb445]? = some (.cells #[.bool a1_0, (.slice A1_1 l1_1.length c1_1)] 29 (0, 0))) ∧ Aside0 (Below w.heap.size w wc))
 case first =>
  have H := HC3.out
  clear HC3
  by_cases c6 : (a0_0 != a1_0) = true
  ·rw [if_pos c6] at H
   have c6b0 : (a0_0 != a1_0) = true := c6
   (try (have c6b1 : decide (a0_0 = a1_0) = false := by simpa using c6))
   (try (have c6b2 : (a0_0 == a1_0) = false := by simpa using c6))
   (try (have c6b3 : ¬ (a0_0 = a1_0) := by simpa using c6))
   clear c6
   (first | rw [c6b0] | (simp only [i64_w, i32_w]; rw [c6b0]) | skip)
   have H' := Aside0.mk H
   clear H
   have hnb7 := NB444_445.out
   have hnc7 := NB445_444.out
   have hcz8_0 : w5.cell? ⟨gb444, 0, none⟩ = some (.bool a0_0) := (blk_cell BK444.out 0).trans rfl
   have hcz8_1 : w5.cell? ⟨gb444, 1, none⟩ = some (.slice A0_1 l0_1.length c0_1) := (blk_cell BK444.out 1).trans rfl
   have hfz8_0 := blk_frozen BK444.out 0
   have hfz8_1 := blk_frozen BK444.out 1
   have hcz9_0 : w5.cell? ⟨gb445, 0, none⟩ = some (.bool a1_0) := (blk_cell BK445.out 0).trans rfl
   have hcz9_1 : w5.cell? ⟨gb445, 1, none⟩ = some (.slice A1_1 l1_1.length c1_1) := (blk_cell BK445.out 1).trans rfl
   have hfz9_0 := blk_frozen BK445.out 0
   have hfz9_1 := blk_frozen BK445.out 1
   go_wp2
   go_meet
   case rel => exact ⟨_, (a0_0), (by first | rfl | (simp; done) | (simp [*]; done)), H', ⟨by first | omega | exact Nat.le_refl _⟩, ⟨by (with_reducible repeat (first | refine blk_drewN ?_ _ | refine blk_drew ?_ | refine blk_alloc ?_ _)); exact BK444.out⟩, ⟨by (with_reducible repeat (first | refine blk_drewN ?_ _ | refine blk_drew ?_ | refine blk_alloc ?_ _)); exact BK445.out⟩, ⟨by repeat (first | (with_reducible first | exact HB.out | apply below_alloc | apply pw_below_drewN | apply below_drew1 | refine below_set ?_ GE444.out | refine below_set ?_ GE445.out) | exact HB.out)⟩⟩
  ·rw [if_neg c6] at H
   have c6b0 : (a0_0 != a1_0) = false := by simpa using c6
   (try (have c6b1 : decide (a0_0 = a1_0) = true := by simpa using c6))
   (try (have c6b2 : (a0_0 == a1_0) = true := by simpa using c6))
   clear c6
   (first | rw [c6b0] | (simp only [i64_w, i32_w]; rw [c6b0]) | skip)
   have H' := Aside0.mk H
   clear H
   have hnb10 := NB444_445.out
   have hnc10 := NB445_444.out
   have hcz11_0 : w5.cell? ⟨gb444, 0, none⟩ = some (.bool a0_0) := (blk_cell BK444.out 0).trans rfl
   have hcz11_1 : w5.cell? ⟨gb444, 1, none⟩ = some (.slice A0_1 l0_1.length c0_1) := (blk_cell BK444.out 1).trans rfl
   have hfz11_0 := blk_frozen BK444.out 0
   have hfz11_1 := blk_frozen BK444.out 1
   have hcz12_0 : w5.cell? ⟨gb445, 0, none⟩ = some (.bool a1_0) := (blk_cell BK445.out 0).trans rfl
   have hcz12_1 : w5.cell? ⟨gb445, 1, none⟩ = some (.slice A1_1 l1_1.length c1_1) := (blk_cell BK445.out 1).trans rfl
   have hfz12_0 := blk_frozen BK445.out 0
   have hfz12_1 := blk_frozen BK445.out 1
   go_wp2
   go_meet
   case rel => exact ⟨_, (false), (by first | rfl | (simp; done) | (simp [*]; done)), H', ⟨by first | omega | exact Nat.le_refl _⟩, ⟨by (with_reducible repeat (first | refine blk_drewN ?_ _ | refine blk_drew ?_ | refine blk_alloc ?_ _)); exact BK444.out⟩, ⟨by (with_reducible repeat (first | refine blk_drewN ?_ _ | refine blk_drew ?_ | refine blk_alloc ?_ _)); exact BK445.out⟩, ⟨by repeat (first | (with_reducible first | exact HB.out | apply below_alloc | apply pw_below_drewN | apply below_drew1 | refine below_set ?_ GE444.out | refine below_set ?_ GE445.out) | exact HB.out)⟩⟩
 case rest =>
  clear HC3
  try clear c1
  try clear p2
  try clear c5
  try clear c6
  try clear c6b0
  try clear c6b1
  try clear c6b2
  try clear c7
  try clear c10
  try clear hcz11_0
  try clear hcz11_1
  try clear hcz12_0
  try clear hcz12_1
  try clear hcz8_0
  try clear hcz8_1
  try clear hcz9_0
  try clear hcz9_1
  try clear hfz11_0
  try clear hfz11_1
  try clear hfz12_0
  try clear hfz12_1
  try clear hfz8_0
  try clear hfz8_1
  try clear hfz9_0
  try clear hfz9_1
  obtain ⟨kq, x5_2, rfl, HA, HJ2, BK444, BK445, HB⟩ := hcut
  cases kq with
  | zero => exact absurd HA.out (by simp [spec_Whole_Cmp.j0])
  | succ kj2 =>
   have H := HA.out
   clear HA
   simp only [spec_Whole_Cmp.j0] at H
   by_cases c13 : x5_2 = true
   ·subst c13
    have H1 : (some (-1)) = some r := by rw [if_pos rfl] at H; exact H
    clear H
    have H := H1
    clear H1
    obtain rfl := Option.some.inj H
    go_wp2
    go_ret
    exact ⟨by first | rfl | (simp [errW_none, errW_some] <;> rfl) | (simp [*, errW_none, errW_some] <;> rfl), by repeat (first | (with_reducible first | exact HB.out | apply below_alloc | apply pw_below_drewN | apply below_drew1 | refine below_set ?_ GE444.out | refine below_set ?_ GE445.out) | exact HB.out)⟩
   ·replace c13 := Bool.eq_false_iff.mpr c13
    subst c13
    have H1 : (if (a0_0 != a1_0) = true then (some 1) else (if a0_0 = true then ((spec_NatCmp.f kj2 l1_1 l0_1).bind fun t446 => (some t446)) else ((spec_NatCmp.f kj2 l0_1 l1_1).bind fun t447 => (some t447)))) = some r := by rw [if_neg (show ¬ (false = true) by decide)] at H; exact H
    clear H
    have H := H1
    clear H1
    by_cases c14 : (a0_0 != a1_0) = true
    ·rw [if_pos c14] at H
     have c14b0 : (a0_0 != a1_0) = true := c14
     (try (have c14b1 : decide (a0_0 = a1_0) = false := by simpa using c14))
     (try (have c14b2 : (a0_0 == a1_0) = false := by simpa using c14))
     (try (have c14b3 : ¬ (a0_0 = a1_0) := by simpa using c14))
     clear c14
     obtain rfl := Option.some.inj H
     have hnb15 := NB444_445.out
     have hnc15 := NB445_444.out
     have hcz16_0 : wc.cell? ⟨gb444, 0, none⟩ = some (.bool a0_0) := (blk_cell BK444.out 0).trans rfl
     have hcz16_1 : wc.cell? ⟨gb444, 1, none⟩ = some (.slice A0_1 l0_1.length c0_1) := (blk_cell BK444.out 1).trans rfl
     have hfz16_0 := blk_frozen BK444.out 0
     have hfz16_1 := blk_frozen BK444.out 1
     have hcz17_0 : wc.cell? ⟨gb445, 0, none⟩ = some (.bool a1_0) := (blk_cell BK445.out 0).trans rfl
     have hcz17_1 : wc.cell? ⟨gb445, 1, none⟩ = some (.slice A1_1 l1_1.length c1_1) := (blk_cell BK445.out 1).trans rfl
     have hfz17_0 := blk_frozen BK445.out 0
     have hfz17_1 := blk_frozen BK445.out 1
     go_wp2
     go_ret
     exact ⟨by first | rfl | (simp [errW_none, errW_some] <;> rfl) | (simp [*, errW_none, errW_some] <;> rfl), by repeat (first | (with_reducible first | exact HB.out | apply below_alloc | apply pw_below_drewN | apply below_drew1 | refine below_set ?_ GE444.out | refine below_set ?_ GE445.out) | exact HB.out)⟩
    ·rw [if_neg c14] at H
     have c14b0 : (a0_0 != a1_0) = false := by simpa using c14
     (try (have c14b1 : decide (a0_0 = a1_0) = true := by simpa using c14))
     (try (have c14b2 : (a0_0 == a1_0) = true := by simpa using c14))
     clear c14
     by_cases c18 : a0_0 = true
     ·subst c18
      have H1 : ((spec_NatCmp.f kj2 l1_1 l0_1).bind fun t446 => (some t446)) = some r := by rw [if_pos rfl] at H; exact H
      clear H
      have H := H1
      clear H1
      replace H := Option.bind_eq_some_iff.mp H
      obtain ⟨t446, A190, H⟩ := H
      replace H : (some t446) = some r := H
      have A19 := Aside0.mk A190
      clear A190
      obtain rfl := Option.some.inj H
      have hnb20 := NB444_445.out
      have hnc20 := NB445_444.out
      have hcz21_0 : wc.cell? ⟨gb444, 0, none⟩ = some (.bool true) := (blk_cell BK444.out 0).trans rfl
      have hcz21_1 : wc.cell? ⟨gb444, 1, none⟩ = some (.slice A0_1 l0_1.length c0_1) := (blk_cell BK444.out 1).trans rfl
      have hfz21_0 := blk_frozen BK444.out 0
      have hfz21_1 := blk_frozen BK444.out 1
      have hcz22_0 : wc.cell? ⟨gb445, 0, none⟩ = some (.bool a1_0) := (blk_cell BK445.out 0).trans rfl
      have hcz22_1 : wc.cell? ⟨gb445, 1, none⟩ = some (.slice A1_1 l1_1.length c1_1) := (blk_cell BK445.out 1).trans rfl
      have hfz22_0 := blk_frozen BK445.out 0
      have hfz22_1 := blk_frozen BK445.out 1
      go_wp2_with (first | ((with_reducible refine gate_callee (f := 106) rfl ?_); refine goesL_ (some 28) rfl rfl Tryz.func106 (by kernel_rfl) rfl #[.slice A1_1 l1_1.length c1_1, .slice A0_1 l0_1.length c0_1] rfl (by (try simp only [List.map_toArray, List.map_cons, List.map_nil]); first | done | rfl | (simp only [List.length_drop, List.length_take]; rfl)) ?_; (with_reducible refine (spec_NatCmp.calls kj2 _ _ l1_1 _ _ l0_1 t446 _ ?side1 ?side2 ?side3 ?side4 A19.out).mono ?_); (case side1 => repeat (first | exact (Kd.C_below HR1_1.out HB.out) | (with_reducible refine Kd.C_alloc ?_ _) | (with_reducible refine Kd.C_drewN ?_ _) | (with_reducible refine Kd.C_drew ?_))); (case side2 => exact HC1_1.out); (case side3 => repeat (first | exact (Kd.C_below HR0_1.out HB.out) | (with_reducible refine Kd.C_alloc ?_ _) | (with_reducible refine Kd.C_drewN ?_ _) | (with_reducible refine Kd.C_drew ?_))); (case side4 => exact HC0_1.out); rintro e w' ⟨rfl, ⟨nd, rfl⟩⟩; refine ⟨_, rfl, ?_⟩))
      go_ret
      exact ⟨by first | rfl | (simp [errW_none, errW_some] <;> rfl) | (simp [*, errW_none, errW_some] <;> rfl), by repeat (first | (with_reducible first | exact HB.out | apply below_alloc | apply pw_below_drewN | apply below_drew1 | refine below_set ?_ GE444.out | refine below_set ?_ GE445.out) | exact HB.out)⟩
     ·replace c18 := Bool.eq_false_iff.mpr c18
      subst c18
      have H1 : ((spec_NatCmp.f kj2 l0_1 l1_1).bind fun t447 => (some t447)) = some r := by rw [if_neg (show ¬ (false = true) by decide)] at H; exact H
      clear H
      have H := H1
      clear H1
      replace H := Option.bind_eq_some_iff.mp H
      obtain ⟨t447, A230, H⟩ := H
      replace H : (some t447) = some r := H
      have A23 := Aside0.mk A230
      clear A230
      obtain rfl := Option.some.inj H
      have hnb24 := NB444_445.out
      have hnc24 := NB445_444.out
      have hcz25_0 : wc.cell? ⟨gb444, 0, none⟩ = some (.bool false) := (blk_cell BK444.out 0).trans rfl
      have hcz25_1 : wc.cell? ⟨gb444, 1, none⟩ = some (.slice A0_1 l0_1.length c0_1) := (blk_cell BK444.out 1).trans rfl
      have hfz25_0 := blk_frozen BK444.out 0
      have hfz25_1 := blk_frozen BK444.out 1
      have hcz26_0 : wc.cell? ⟨gb445, 0, none⟩ = some (.bool a1_0) := (blk_cell BK445.out 0).trans rfl
      have hcz26_1 : wc.cell? ⟨gb445, 1, none⟩ = some (.slice A1_1 l1_1.length c1_1) := (blk_cell BK445.out 1).trans rfl
      have hfz26_0 := blk_frozen BK445.out 0
      have hfz26_1 := blk_frozen BK445.out 1
      go_wp2_with (first | ((with_reducible refine gate_callee (f := 106) rfl ?_); refine goesL_ (some 33) rfl rfl Tryz.func106 (by kernel_rfl) rfl #[.slice A0_1 l0_1.length c0_1, .slice A1_1 l1_1.length c1_1] rfl (by (try simp only [List.map_toArray, List.map_cons, List.map_nil]); first | done | rfl | (simp only [List.length_drop, List.length_take]; rfl)) ?_; (with_reducible refine (spec_NatCmp.calls kj2 _ _ l0_1 _ _ l1_1 t447 _ ?side1 ?side2 ?side3 ?side4 A23.out).mono ?_); (case side1 => repeat (first | exact (Kd.C_below HR0_1.out HB.out) | (with_reducible refine Kd.C_alloc ?_ _) | (with_reducible refine Kd.C_drewN ?_ _) | (with_reducible refine Kd.C_drew ?_))); (case side2 => exact HC0_1.out); (case side3 => repeat (first | exact (Kd.C_below HR1_1.out HB.out) | (with_reducible refine Kd.C_alloc ?_ _) | (with_reducible refine Kd.C_drewN ?_ _) | (with_reducible refine Kd.C_drew ?_))); (case side4 => exact HC1_1.out); rintro e w' ⟨rfl, ⟨nd, rfl⟩⟩; refine ⟨_, rfl, ?_⟩))
      go_ret
      exact ⟨by first | rfl | (simp [errW_none, errW_some] <;> rfl) | (simp [*, errW_none, errW_some] <;> rfl), by repeat (first | (with_reducible first | exact HB.out | apply below_alloc | apply pw_below_drewN | apply below_drew1 | refine below_set ?_ GE444.out | refine below_set ?_ GE445.out) | exact HB.out)⟩
end Go.Proofs.YtgamldefngehlaaGreatDoor.PFnVaFieldDecimals
