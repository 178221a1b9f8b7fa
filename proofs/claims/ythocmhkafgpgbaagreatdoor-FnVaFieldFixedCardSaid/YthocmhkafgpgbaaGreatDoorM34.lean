/- The reference's functions: part F. -/
import Derived.Test.YthocmhkafgpgbaaGreatDoorM29
import Derived.Test.YthocmhkafgpgbaaGreatDoorM30
import Derived.Test.YthocmhkafgpgbaaGreatDoorM32
import Derived.Test.YthocmhkafgpgbaaGreatDoorM33
namespace Go.Proofs.YthocmhkafgpgbaaGreatDoor.PFnVaFieldFixed
open Go.RowKit Go.Proofs.YthocmhkafgpgbaaGreatDoorW.PrintWords Go.Proofs.YthocmhkafgpgbaaGreatDoorW.PrintLast Go.Proofs.YthocmhkafgpgbaaGreatDoorW.PrintMore
attribute [local go_sem] max2_int min2_int max_two min_two max_three min_three max_four min_four
set_option linter.unusedVariables false
set_option linter.unusedSimpArgs false
def spec_NatSub.l0 : Nat → List Int → List Int → Int → List Int → Int → Int → Option (List Int)
 | 0, _, _, _, _, _, _ => none
 | k + 1, x1, x5, x6, x10, x11, x12 => if x12 < x11 then (if 0 ≤ x12 then (if x12 < (x10.length : Int) then (if x12 < (x1.length : Int) then (if (rd x10 x12) < ((x6 + (rd x1 x12)) % 4294967296) then (if x5.length < 35184372088832 then (spec_NatSub.l0 k x1 (x5 ++ [((((rd x10 x12) + 1000000000) % 4294967296) - ((x6 + (rd x1 x12)) % 4294967296)) % 4294967296]) 1 x10 x11 (wrap64 (x12 + 1))) else (none)) else (if x5.length < 35184372088832 then (spec_NatSub.l0 k x1 (x5 ++ [((rd x10 x12) - ((x6 + (rd x1 x12)) % 4294967296)) % 4294967296]) 0 x10 x11 (wrap64 (x12 + 1))) else (none))) else (if (rd x10 x12) < x6 then (if x5.length < 35184372088832 then (spec_NatSub.l0 k x1 (x5 ++ [((((rd x10 x12) + 1000000000) % 4294967296) - x6) % 4294967296]) 1 x10 x11 (wrap64 (x12 + 1))) else (none)) else (if x5.length < 35184372088832 then (spec_NatSub.l0 k x1 (x5 ++ [((rd x10 x12) - x6) % 4294967296]) 0 x10 x11 (wrap64 (x12 + 1))) else (none)))) else (none)) else (none)) else ((spec_natTrim.f k x5).bind fun t226 => (some t226))
def spec_NatSub.f (k : Nat) (l0 : List Int) (l1 : List Int) : Option (List Int) := spec_NatSub.l0 k l1 ([] : List Int) 0 l0 (l0.length : Int) 0
theorem spec_NatSub.mono_l : ∀ k, (∀ y0 y1 y2 y3 y4 y5, LeO (spec_NatSub.l0 k y0 y1 y2 y3 y4 y5) (spec_NatSub.l0 (k + 1) y0 y1 y2 y3 y4 y5))
 | 0 => fun _ _ _ _ _ _ r h => by simp [spec_NatSub.l0] at h
 | k + 1 => by
  have ih0 := spec_NatSub.mono_l k
  ·intro y0 y1 y2 y3 y4 y5
   unfold spec_NatSub.l0
   repeat' first
   | (with_reducible exact ih0 _ _ _ _ _ _)
   | (with_reducible exact spec_natTrim.mono _ _)
   | (with_reducible exact LeO.refl _)
   | (with_reducible exact LeO.none _)
   | (with_reducible refine LeO.ite ?_ ?_)
   | (with_reducible refine LeO.bind ?_ (fun _ => ?_))
   | exact ih0 _ _ _ _ _ _
   | exact spec_natTrim.mono _ _
   | exact LeO.none _
   | refine LeO.ite ?_ ?_
   | refine LeO.bind ?_ (fun _ => ?_)
theorem spec_NatSub.mono : ∀ a0 a1 k, LeO (spec_NatSub.f k a0 a1) (spec_NatSub.f (k + 1) a0 a1) := by
 intro a0 a1 k
 have ih0 := spec_NatSub.mono_l k
 unfold spec_NatSub.f
 repeat' first
   | (with_reducible exact ih0 _ _ _ _ _ _)
   | (with_reducible exact spec_natTrim.mono _ _)
   | (with_reducible exact LeO.refl _)
   | (with_reducible exact LeO.none _)
   | (with_reducible refine LeO.ite ?_ ?_)
   | (with_reducible refine LeO.bind ?_ (fun _ => ?_))
   | exact ih0 _ _ _ _ _ _
   | exact spec_natTrim.mono _ _
   | exact LeO.none _
   | refine LeO.ite ?_ ?_
   | refine LeO.bind ?_ (fun _ => ?_)
set_option maxHeartbeats 8000000 in
set_option maxRecDepth 100000 in
theorem spec_NatSub.calls (k : Nat) (A0 : Option Addr) (c0 : Nat) (l0 : List Int) (A1 : Option Addr) (c1 : Nat) (l1 : List Int) (r : List Int) (w : World) (hr0 : Kd.C (Kd.int .u32) w A0 l0.length l0) (hc0 : l0.length ≤ c0) (hr1 : Kd.C (Kd.int .u32) w A1 l1.length l1) (hc1 : l1.length ≤ c1) (h : spec_NatSub.f k l0 l1 = some r) :
  Calls Tryz.prog 20 #[.slice A0 l0.length c0, .slice A1 l1.length c1] w fun e w' => ∃ v0_ : Value, e = .returned (v0_) ∧ Kd.V (Kd.int .u32) 91 w' w.heap.size (fun k_ => (w.heap.size ≤ k_)) v0_ r ∧ Below w.heap.size w w' := by
 have HR0 := Aside0.mk hr0
 have HC0 := Aside0.mk hc0
 clear hr0 hc0
 have HR1 := Aside0.mk hr1
 have HC1 := Aside0.mk hc1
 clear hr1 hc1
 have HB := Aside0.mk (Below.refl w.heap.size w)
 have H : (spec_NatSub.l0 k l1 ([] : List Int) 0 l0 (l0.length : Int) 0) = some r := h
 clear h
 have H' := Aside0.mk H
 clear H
 go_enter Tryz.func20, Tryz.ntmps20
 go_wp2
 go_loopg [5, 6, 12] k (fun kq v5 v6 v12 w' => ∃ (x5_1 : List Int) (x6_1 : Int) (x12_1 : Int), v6 = .int .u32 x6_1 ∧ v12 = .int .i64 x12_1 ∧ Aside0 (spec_NatSub.l0 kq l1 x5_1 x6_1 l0 (l0.length : Int) x12_1 = some r) ∧ Aside0 (kq ≤ k) ∧ Aside0 (Kd.R (Kd.int .u32) 91 w' w.heap.size (fun k_ => (w.heap.size ≤ k_)) v5 x5_1) ∧ Aside0 (Below w.heap.size w w'))
 case atStart => exact ⟨(([] : List Int)), (0), (0), (by first | rfl | (simp; done) | (simp [*]; done)), (by first | rfl | (simp; done) | (simp [*]; done)), H', ⟨Nat.le_refl _⟩, ⟨by first | exact Kd.R_nil _ _ _ _ _ | exact Kd.N_nil _ _ _ _ _ | exact Kd.V_nil _ _ _ _ _ | exact Kd.Q_nil _ _ _ _ _ | exact Kd.S_nil _ _ _ _ _⟩, ⟨by repeat (first | (with_reducible first | exact HB.out | apply below_alloc | apply pw_below_drewN | apply below_drew1) | exact HB.out)⟩⟩
 case round =>
  clear H'
  try clear c1
  try clear c2
  try clear p2
  obtain ⟨x5_1, x6_1, x12_1, rfl, rfl, HA, HK1, HO_5, HB⟩ := hrel
  cases gk with
  | zero => exact absurd HA.out (by simp [spec_NatSub.l0])
  | succ k1 =>
   have H := HA.out
   clear HA
   simp only [spec_NatSub.l0] at H
   by_cases c3 : x12_1 < (l0.length : Int)
   ·rw [if_pos c3] at H
    have c3b0 : decide (x12_1 < (l0.length : Int)) = true := decide_eq_true c3
    clear c3
    by_cases c4 : 0 ≤ x12_1
    ·rw [if_pos c4] at H
     have c4b0 : decide (0 ≤ x12_1) = true := decide_eq_true c4
     clear c4
     by_cases c5 : x12_1 < (l0.length : Int)
     ·rw [if_pos c5] at H
      have c5b0 : decide (x12_1 < (l0.length : Int)) = true := decide_eq_true c5
      clear c5
      by_cases c6 : x12_1 < (l1.length : Int)
      ·rw [if_pos c6] at H
       have c6b0 : decide (x12_1 < (l1.length : Int)) = true := decide_eq_true c6
       clear c6
       by_cases c7 : (rd l0 x12_1) < ((x6_1 + (rd l1 x12_1)) % 4294967296)
       ·rw [if_pos c7] at H
        have c7b0 : decide ((rd l0 x12_1) < ((x6_1 + (rd l1 x12_1)) % 4294967296)) = true := decide_eq_true c7
        clear c7
        by_cases c8 : x5_1.length < 35184372088832
        ·rw [if_pos c8] at H
         have LMc8 := Aside0.mk c8
         clear c8
         simp only [Int.emod_sub_emod, Int.sub_emod_emod] at H
         obtain ⟨y231, hy231⟩ : ∃ y_ : List Int, y_ = (x5_1 ++ [((rd l0 x12_1) + 1000000000 - (x6_1 + (rd l1 x12_1))) % 4294967296]) := ⟨_, rfl⟩
         replace H : (spec_NatSub.l0 k1 l1 y231 1 l0 (l0.length : Int) (wrap64 (x12_1 + 1))) = some r := by first | (rw [hy231]; with_reducible exact H) | (have H2_ := (Option.bind_some _ _).symm.trans H; rw [hy231]; with_reducible exact H2_) | (have H2_ := (Option.bind_some _ _).symm.trans H; with_reducible exact H2_) | with_reducible exact H | (rw [hy231]; exact H) | exact H
         have Ny231 := Aside0.mk hy231
         clear hy231
         have H' := Aside0.mk H
         clear H
         have p229 : 0 ≤ (x12_1 : Int) := of_decide_eq_true (by first | (with_reducible assumption) | assumption)
         have q229 : x12_1 < (l0.length : Int) := of_decide_eq_true (by first | (with_reducible assumption) | assumption)
         obtain ⟨ad229, e229, hx229_0⟩ := Kd.at_int HR0.out x12_1 p229 q229
         cases e229
         replace hx229_0 := (HB.out.cell (World.block_lt_of_cell? w _ hx229_0)).trans hx229_0
         replace p229 := eq_true p229
         replace q229 := eq_true q229
         have p230 : 0 ≤ (x12_1 : Int) := of_decide_eq_true (by first | (with_reducible assumption) | assumption)
         have q230 : x12_1 < (l1.length : Int) := of_decide_eq_true (by first | (with_reducible assumption) | assumption)
         obtain ⟨ad230, e230, hx230_0⟩ := Kd.at_int HR1.out x12_1 p230 q230
         cases e230
         replace hx230_0 := (HB.out.cell (World.block_lt_of_cell? w _ hx230_0)).trans hx230_0
         replace p230 := eq_true p230
         replace q230 := eq_true q230
         go_wp2_with (first | ((with_reducible refine gate_builtin (b := .append) (xs := #[.tmp 33, .tmp 37]) rfl ?_); at_builtin; refine Kd.R_append (Kd.int .u32) (w0 := w) w.heap.size rfl (.tmp 33) (.tmp 37) 28 91 (.int .u32 0) 4 rfl Tryz.underlying28 info91 rfl (by decide) (by omega) u5 x5_1 (((rd l0 x12_1) + 1000000000 - (x6_1 + (rd l1 x12_1))) % 4294967296) [.int .u32 (((rd l0 x12_1) + 1000000000 - (x6_1 + (rd l1 x12_1))) % 4294967296)] (fun k_ => (w.heap.size ≤ k_)) (fun _ => False) rfl rfl ?aP (fun _ hk => hk.elim) ?aF ?aO ?aB ?aS ?aL ?_; (case aP => exact rfl); (case aB => exact (by repeat (first | (with_reducible first | exact HB.out | apply below_alloc | apply pw_below_drewN | apply below_drew1) | exact HB.out))); (case aF => exact (fun k_ hk => (Nat.le_trans (below_size (by repeat (first | (with_reducible first | exact HB.out | apply below_alloc | apply pw_below_drewN | apply below_drew1) | exact HB.out))) hk))); (case aO => exact (by (with_reducible repeat (first | apply Kd.R_alloc | apply Kd.R_drewN | apply Kd.R_drew)); exact HO_5.out)); (case aS => exact (below_size (by repeat (first | (with_reducible first | exact HB.out | apply below_alloc | apply pw_below_drewN | apply below_drew1) | exact HB.out)))); (case aL => have := LMc8.out; omega); intro v232 w9 ho hb hg hat; rw [← Ny231.out] at ho; have n0_ := Aside0.mk (hb); have n1_ := Aside0.mk (ho); clear HB; clear HO_5; have HB := n0_; have HO233 := n1_; clear n0_ n1_; clear ho hb hg hat))
         go_roundg k1
         case measure => have := HK1.out; omega
         case rel => exact ⟨(y231), (1), (wrap64 (x12_1 + 1)), (by first | rfl | (simp; done) | (simp [*]; done)), (by first | rfl | (simp; done) | (simp [*]; done)), H', ⟨by have := HK1.out; omega⟩, ⟨by (with_reducible repeat (first | apply Kd.R_alloc | apply Kd.R_drewN | apply Kd.R_drew)); exact HO233.out⟩, ⟨by repeat (first | (with_reducible first | exact HB.out | apply below_alloc | apply pw_below_drewN | apply below_drew1) | exact HB.out)⟩⟩
        ·rw [if_neg c8] at H
         exact absurd H (by simp)
       ·rw [if_neg c7] at H
        have c7b0 : decide ((rd l0 x12_1) < ((x6_1 + (rd l1 x12_1)) % 4294967296)) = false := decide_eq_false c7
        clear c7
        by_cases c10 : x5_1.length < 35184372088832
        ·rw [if_pos c10] at H
         have LMc10 := Aside0.mk c10
         clear c10
         simp only [Int.emod_sub_emod, Int.sub_emod_emod] at H
         obtain ⟨y234, hy234⟩ : ∃ y_ : List Int, y_ = (x5_1 ++ [((rd l0 x12_1) - (x6_1 + (rd l1 x12_1))) % 4294967296]) := ⟨_, rfl⟩
         replace H : (spec_NatSub.l0 k1 l1 y234 0 l0 (l0.length : Int) (wrap64 (x12_1 + 1))) = some r := by first | (rw [hy234]; with_reducible exact H) | (have H2_ := (Option.bind_some _ _).symm.trans H; rw [hy234]; with_reducible exact H2_) | (have H2_ := (Option.bind_some _ _).symm.trans H; with_reducible exact H2_) | with_reducible exact H | (rw [hy234]; exact H) | exact H
         have Ny234 := Aside0.mk hy234
         clear hy234
         have H' := Aside0.mk H
         clear H
         have p229 : 0 ≤ (x12_1 : Int) := of_decide_eq_true (by first | (with_reducible assumption) | assumption)
         have q229 : x12_1 < (l0.length : Int) := of_decide_eq_true (by first | (with_reducible assumption) | assumption)
         obtain ⟨ad229, e229, hx229_0⟩ := Kd.at_int HR0.out x12_1 p229 q229
         cases e229
         replace hx229_0 := (HB.out.cell (World.block_lt_of_cell? w _ hx229_0)).trans hx229_0
         replace p229 := eq_true p229
         replace q229 := eq_true q229
         have p230 : 0 ≤ (x12_1 : Int) := of_decide_eq_true (by first | (with_reducible assumption) | assumption)
         have q230 : x12_1 < (l1.length : Int) := of_decide_eq_true (by first | (with_reducible assumption) | assumption)
         obtain ⟨ad230, e230, hx230_0⟩ := Kd.at_int HR1.out x12_1 p230 q230
         cases e230
         replace hx230_0 := (HB.out.cell (World.block_lt_of_cell? w _ hx230_0)).trans hx230_0
         replace p230 := eq_true p230
         replace q230 := eq_true q230
         go_wp2_with (first | ((with_reducible refine gate_builtin (b := .append) (xs := #[.tmp 33, .tmp 37]) rfl ?_); at_builtin; refine Kd.R_append (Kd.int .u32) (w0 := w) w.heap.size rfl (.tmp 33) (.tmp 37) 28 91 (.int .u32 0) 4 rfl Tryz.underlying28 info91 rfl (by decide) (by omega) u5 x5_1 (((rd l0 x12_1) - (x6_1 + (rd l1 x12_1))) % 4294967296) [.int .u32 (((rd l0 x12_1) - (x6_1 + (rd l1 x12_1))) % 4294967296)] (fun k_ => (w.heap.size ≤ k_)) (fun _ => False) rfl rfl ?aP (fun _ hk => hk.elim) ?aF ?aO ?aB ?aS ?aL ?_; (case aP => exact rfl); (case aB => exact (by repeat (first | (with_reducible first | exact HB.out | apply below_alloc | apply pw_below_drewN | apply below_drew1) | exact HB.out))); (case aF => exact (fun k_ hk => (Nat.le_trans (below_size (by repeat (first | (with_reducible first | exact HB.out | apply below_alloc | apply pw_below_drewN | apply below_drew1) | exact HB.out))) hk))); (case aO => exact (by (with_reducible repeat (first | apply Kd.R_alloc | apply Kd.R_drewN | apply Kd.R_drew)); exact HO_5.out)); (case aS => exact (below_size (by repeat (first | (with_reducible first | exact HB.out | apply below_alloc | apply pw_below_drewN | apply below_drew1) | exact HB.out)))); (case aL => have := LMc10.out; omega); intro v235 w11 ho hb hg hat; rw [← Ny234.out] at ho; have n0_ := Aside0.mk (hb); have n1_ := Aside0.mk (ho); clear HB; clear HO_5; have HB := n0_; have HO236 := n1_; clear n0_ n1_; clear ho hb hg hat))
         go_roundg k1
         case measure => have := HK1.out; omega
         case rel => exact ⟨(y234), (0), (wrap64 (x12_1 + 1)), (by first | rfl | (simp; done) | (simp [*]; done)), (by first | rfl | (simp; done) | (simp [*]; done)), H', ⟨by have := HK1.out; omega⟩, ⟨by (with_reducible repeat (first | apply Kd.R_alloc | apply Kd.R_drewN | apply Kd.R_drew)); exact HO236.out⟩, ⟨by repeat (first | (with_reducible first | exact HB.out | apply below_alloc | apply pw_below_drewN | apply below_drew1) | exact HB.out)⟩⟩
        ·rw [if_neg c10] at H
         exact absurd H (by simp)
      ·rw [if_neg c6] at H
       have c6b0 : decide (x12_1 < (l1.length : Int)) = false := decide_eq_false c6
       clear c6
       by_cases c12 : (rd l0 x12_1) < x6_1
       ·rw [if_pos c12] at H
        have c12b0 : decide ((rd l0 x12_1) < x6_1) = true := decide_eq_true c12
        clear c12
        by_cases c13 : x5_1.length < 35184372088832
        ·rw [if_pos c13] at H
         have LMc13 := Aside0.mk c13
         clear c13
         simp only [Int.emod_sub_emod, Int.sub_emod_emod] at H
         obtain ⟨y237, hy237⟩ : ∃ y_ : List Int, y_ = (x5_1 ++ [((rd l0 x12_1) + 1000000000 - x6_1) % 4294967296]) := ⟨_, rfl⟩
         replace H : (spec_NatSub.l0 k1 l1 y237 1 l0 (l0.length : Int) (wrap64 (x12_1 + 1))) = some r := by first | (rw [hy237]; with_reducible exact H) | (have H2_ := (Option.bind_some _ _).symm.trans H; rw [hy237]; with_reducible exact H2_) | (have H2_ := (Option.bind_some _ _).symm.trans H; with_reducible exact H2_) | with_reducible exact H | (rw [hy237]; exact H) | exact H
         have Ny237 := Aside0.mk hy237
         clear hy237
         have H' := Aside0.mk H
         clear H
         have p229 : 0 ≤ (x12_1 : Int) := of_decide_eq_true (by first | (with_reducible assumption) | assumption)
         have q229 : x12_1 < (l0.length : Int) := of_decide_eq_true (by first | (with_reducible assumption) | assumption)
         obtain ⟨ad229, e229, hx229_0⟩ := Kd.at_int HR0.out x12_1 p229 q229
         cases e229
         replace hx229_0 := (HB.out.cell (World.block_lt_of_cell? w _ hx229_0)).trans hx229_0
         replace p229 := eq_true p229
         replace q229 := eq_true q229
         go_wp2_with (first | ((with_reducible refine gate_builtin (b := .append) (xs := #[.tmp 33, .tmp 37]) rfl ?_); at_builtin; refine Kd.R_append (Kd.int .u32) (w0 := w) w.heap.size rfl (.tmp 33) (.tmp 37) 28 91 (.int .u32 0) 4 rfl Tryz.underlying28 info91 rfl (by decide) (by omega) u5 x5_1 (((rd l0 x12_1) + 1000000000 - x6_1) % 4294967296) [.int .u32 (((rd l0 x12_1) + 1000000000 - x6_1) % 4294967296)] (fun k_ => (w.heap.size ≤ k_)) (fun _ => False) rfl rfl ?aP (fun _ hk => hk.elim) ?aF ?aO ?aB ?aS ?aL ?_; (case aP => exact rfl); (case aB => exact (by repeat (first | (with_reducible first | exact HB.out | apply below_alloc | apply pw_below_drewN | apply below_drew1) | exact HB.out))); (case aF => exact (fun k_ hk => (Nat.le_trans (below_size (by repeat (first | (with_reducible first | exact HB.out | apply below_alloc | apply pw_below_drewN | apply below_drew1) | exact HB.out))) hk))); (case aO => exact (by (with_reducible repeat (first | apply Kd.R_alloc | apply Kd.R_drewN | apply Kd.R_drew)); exact HO_5.out)); (case aS => exact (below_size (by repeat (first | (with_reducible first | exact HB.out | apply below_alloc | apply pw_below_drewN | apply below_drew1) | exact HB.out)))); (case aL => have := LMc13.out; omega); intro v238 w14 ho hb hg hat; rw [← Ny237.out] at ho; have n0_ := Aside0.mk (hb); have n1_ := Aside0.mk (ho); clear HB; clear HO_5; have HB := n0_; have HO239 := n1_; clear n0_ n1_; clear ho hb hg hat))
         go_roundg k1
         case measure => have := HK1.out; omega
         case rel => exact ⟨(y237), (1), (wrap64 (x12_1 + 1)), (by first | rfl | (simp; done) | (simp [*]; done)), (by first | rfl | (simp; done) | (simp [*]; done)), H', ⟨by have := HK1.out; omega⟩, ⟨by (with_reducible repeat (first | apply Kd.R_alloc | apply Kd.R_drewN | apply Kd.R_drew)); exact HO239.out⟩, ⟨by repeat (first | (with_reducible first | exact HB.out | apply below_alloc | apply pw_below_drewN | apply below_drew1) | exact HB.out)⟩⟩
        ·rw [if_neg c13] at H
         exact absurd H (by simp)
       ·rw [if_neg c12] at H
        have c12b0 : decide ((rd l0 x12_1) < x6_1) = false := decide_eq_false c12
        clear c12
        by_cases c15 : x5_1.length < 35184372088832
        ·rw [if_pos c15] at H
         have LMc15 := Aside0.mk c15
         clear c15
         obtain ⟨y240, hy240⟩ : ∃ y_ : List Int, y_ = (x5_1 ++ [((rd l0 x12_1) - x6_1) % 4294967296]) := ⟨_, rfl⟩
         replace H : (spec_NatSub.l0 k1 l1 y240 0 l0 (l0.length : Int) (wrap64 (x12_1 + 1))) = some r := by first | (rw [hy240]; with_reducible exact H) | (have H2_ := (Option.bind_some _ _).symm.trans H; rw [hy240]; with_reducible exact H2_) | (have H2_ := (Option.bind_some _ _).symm.trans H; with_reducible exact H2_) | with_reducible exact H | (rw [hy240]; exact H) | exact H
         have Ny240 := Aside0.mk hy240
         clear hy240
         have H' := Aside0.mk H
         clear H
         have p229 : 0 ≤ (x12_1 : Int) := of_decide_eq_true (by first | (with_reducible assumption) | assumption)
         have q229 : x12_1 < (l0.length : Int) := of_decide_eq_true (by first | (with_reducible assumption) | assumption)
         obtain ⟨ad229, e229, hx229_0⟩ := Kd.at_int HR0.out x12_1 p229 q229
         cases e229
         replace hx229_0 := (HB.out.cell (World.block_lt_of_cell? w _ hx229_0)).trans hx229_0
         replace p229 := eq_true p229
         replace q229 := eq_true q229
         go_wp2_with (first | ((with_reducible refine gate_builtin (b := .append) (xs := #[.tmp 33, .tmp 37]) rfl ?_); at_builtin; refine Kd.R_append (Kd.int .u32) (w0 := w) w.heap.size rfl (.tmp 33) (.tmp 37) 28 91 (.int .u32 0) 4 rfl Tryz.underlying28 info91 rfl (by decide) (by omega) u5 x5_1 (((rd l0 x12_1) - x6_1) % 4294967296) [.int .u32 (((rd l0 x12_1) - x6_1) % 4294967296)] (fun k_ => (w.heap.size ≤ k_)) (fun _ => False) rfl rfl ?aP (fun _ hk => hk.elim) ?aF ?aO ?aB ?aS ?aL ?_; (case aP => exact rfl); (case aB => exact (by repeat (first | (with_reducible first | exact HB.out | apply below_alloc | apply pw_below_drewN | apply below_drew1) | exact HB.out))); (case aF => exact (fun k_ hk => (Nat.le_trans (below_size (by repeat (first | (with_reducible first | exact HB.out | apply below_alloc | apply pw_below_drewN | apply below_drew1) | exact HB.out))) hk))); (case aO => exact (by (with_reducible repeat (first | apply Kd.R_alloc | apply Kd.R_drewN | apply Kd.R_drew)); exact HO_5.out)); (case aS => exact (below_size (by repeat (first | (with_reducible first | exact HB.out | apply below_alloc | apply pw_below_drewN | apply below_drew1) | exact HB.out)))); (case aL => have := LMc15.out; omega); intro v241 w16 ho hb hg hat; rw [← Ny240.out] at ho; have n0_ := Aside0.mk (hb); have n1_ := Aside0.mk (ho); clear HB; clear HO_5; have HB := n0_; have HO242 := n1_; clear n0_ n1_; clear ho hb hg hat))
         go_roundg k1
         case measure => have := HK1.out; omega
         case rel => exact ⟨(y240), (0), (wrap64 (x12_1 + 1)), (by first | rfl | (simp; done) | (simp [*]; done)), (by first | rfl | (simp; done) | (simp [*]; done)), H', ⟨by have := HK1.out; omega⟩, ⟨by (with_reducible repeat (first | apply Kd.R_alloc | apply Kd.R_drewN | apply Kd.R_drew)); exact HO242.out⟩, ⟨by repeat (first | (with_reducible first | exact HB.out | apply below_alloc | apply pw_below_drewN | apply below_drew1) | exact HB.out)⟩⟩
        ·rw [if_neg c15] at H
         exact absurd H (by simp)
     ·rw [if_neg c5] at H
      exact absurd H (by simp)
    ·rw [if_neg c4] at H
     exact absurd H (by simp)
   ·rw [if_neg c3] at H
    have c3b0 : decide (x12_1 < (l0.length : Int)) = false := decide_eq_false c3
    clear c3
    replace H := Option.bind_eq_some_iff.mp H
    obtain ⟨t226, A170, H⟩ := H
    replace H : (some t226) = some r := H
    have A17 := Aside0.mk A170
    clear A170
    obtain rfl := Option.some.inj H
    obtain ⟨Ao18, co18, eo18⟩ := Kd.R_slice HO_5.out
    subst eo18
    go_wp2_with (first | ((with_reducible refine gate_callee (f := 39) rfl ?_); refine goesL_ (some 41) rfl rfl Tryz.func39 (by kernel_rfl) rfl #[.slice Ao18 x5_1.length co18] rfl (by (try simp only [List.map_toArray, List.map_cons, List.map_nil]); first | done | rfl | (simp only [List.length_drop, List.length_take]; rfl)) ?_; (with_reducible refine (spec_natTrim.calls k1 (fun k_ => some k_ = (.slice Ao18 x5_1.length co18 : Value).ownBlock) _ _ x5_1 t226 _ ?side1 A17.out).mono ?_); (case side1 => exact Kd.R_V (Kd.R_tight rfl (HO_5.out))); rintro e w19 ⟨v227, rfl, ho0, hb⟩; refine ⟨_, rfl, ?_⟩; have n0_ := Aside0.mk (Kd.R_below (by (with_reducible repeat (first | apply Kd.R_alloc | apply Kd.R_drewN | apply Kd.R_drew)); exact HO_5.out) hb); have n1_ := Aside0.mk (Kd.V_lower (Kd.V_mono (ok' := fun k_ => (w.heap.size ≤ k_)) ho0 (fun k_ hk_ => Or.elim hk_ (fun hs_ => ((HO_5.out).1 k_ hs_.symm)) (fun hn_ => (Nat.le_trans (below_size (by repeat (first | (with_reducible first | exact HB.out | apply below_alloc | apply pw_below_drewN | apply below_drew1) | exact HB.out))) hn_)))) (below_size (by repeat (first | (with_reducible first | exact HB.out | apply below_alloc | apply pw_below_drewN | apply below_drew1) | exact HB.out)))); have n2_ := Aside0.mk (below_step (by repeat (first | (with_reducible first | exact HB.out | apply below_alloc | apply pw_below_drewN | apply below_drew1) | exact HB.out)) hb); clear HO_5; clear HB; have HO_5 := n0_; have HO228 := n1_; have HB := n2_; clear n0_ n1_ n2_; (try clear hb); (try clear hb2); (try clear hk); (try clear hi); (try clear ho0)))
    go_ret
    exact ⟨_, by first | rfl | (simp [errW_none, errW_some] <;> rfl) | (simp [*, errW_none, errW_some] <;> rfl), by (with_reducible repeat (first | apply Kd.V_alloc | apply Kd.V_drewN | apply Kd.V_drew)); exact HO228.out, by repeat (first | (with_reducible first | exact HB.out | apply below_alloc | apply pw_below_drewN | apply below_drew1) | exact HB.out)⟩
end Go.Proofs.YthocmhkafgpgbaaGreatDoor.PFnVaFieldFixed
