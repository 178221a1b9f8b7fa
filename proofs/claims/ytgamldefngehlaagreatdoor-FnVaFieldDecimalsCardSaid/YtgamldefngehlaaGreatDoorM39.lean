/- The reference's functions: part E. -/
import Derived.Test.YtgamldefngehlaaGreatDoorM35
import Derived.Test.YtgamldefngehlaaGreatDoorM38
namespace Go.Proofs.YtgamldefngehlaaGreatDoor.PFnVaFieldDecimals
open Go.RowKit Go.Proofs.YtgamldefngehlaaGreatDoorW.PrintWords Go.Proofs.YtgamldefngehlaaGreatDoorW.PrintLast Go.Proofs.YtgamldefngehlaaGreatDoorW.PrintMore
attribute [local go_sem] max2_int min2_int max_two min_two max_three min_three max_four min_four
set_option linter.unusedVariables false
set_option linter.unusedSimpArgs false
mutual
def spec_VaBytes.l0 : Nat → List Int → List Int → Option (List Int)
 | 0, _, _ => none
 | k + 1, x0, x3 => if (x0.length : Int) > 0 then ((spec_natShort.f k x0 256).bind fun bt356 => (if x3.length < 140737488355328 then (spec_VaBytes.l0 k bt356.1 (x3 ++ [(bt356.2) % 256])) else (none))) else (spec_VaBytes.l1 k x3 0 (wrap64 ((x3.length : Int) - 1)))
def spec_VaBytes.l1 : Nat → List Int → Int → Int → Option (List Int)
 | 0, _, _, _ => none
 | k + 1, x3, x6, x7 => if x6 < x7 then (if 0 ≤ x7 then (if x7 < (x3.length : Int) then (if 0 ≤ x6 then (if x6 < (x3.length : Int) then (spec_VaBytes.l1 k ((x3.set (x6 : Int).toNat (rd x3 x7)).set (x7 : Int).toNat (rd x3 x6)) (wrap64 (x6 + 1)) (wrap64 (x7 - 1))) else (none)) else (none)) else (none)) else (none)) else (some x3)
end
def spec_VaBytes.f (k : Nat) (l0 : List Int) : Option (List Int) := spec_VaBytes.l0 k l0 ([] : List Int)
theorem spec_VaBytes.mono_l : ∀ k, (∀ y0 y1, LeO (spec_VaBytes.l0 k y0 y1) (spec_VaBytes.l0 (k + 1) y0 y1)) ∧ (∀ y0 y1 y2, LeO (spec_VaBytes.l1 k y0 y1 y2) (spec_VaBytes.l1 (k + 1) y0 y1 y2))
 | 0 => ⟨fun _ _ r h => by simp [spec_VaBytes.l0] at h, fun _ _ _ r h => by simp [spec_VaBytes.l1] at h⟩
 | k + 1 => by
  obtain ⟨ih0, ih1⟩ := spec_VaBytes.mono_l k
  refine ⟨?_, ?_⟩
  ·intro y0 y1
   unfold spec_VaBytes.l0
   repeat' first
   | (with_reducible exact ih0 _ _)
   | (with_reducible exact ih1 _ _ _)
   | (with_reducible exact spec_natShort.mono _ _ _)
   | (with_reducible exact LeO.refl _)
   | (with_reducible exact LeO.none _)
   | (with_reducible refine LeO.ite ?_ ?_)
   | (with_reducible refine LeO.bind ?_ (fun _ => ?_))
   | exact ih0 _ _
   | exact ih1 _ _ _
   | exact spec_natShort.mono _ _ _
   | exact LeO.none _
   | refine LeO.ite ?_ ?_
   | refine LeO.bind ?_ (fun _ => ?_)
  ·intro y0 y1 y2
   unfold spec_VaBytes.l1
   repeat' first
   | (with_reducible exact ih0 _ _)
   | (with_reducible exact ih1 _ _ _)
   | (with_reducible exact spec_natShort.mono _ _ _)
   | (with_reducible exact LeO.refl _)
   | (with_reducible exact LeO.none _)
   | (with_reducible refine LeO.ite ?_ ?_)
   | (with_reducible refine LeO.bind ?_ (fun _ => ?_))
   | exact ih0 _ _
   | exact ih1 _ _ _
   | exact spec_natShort.mono _ _ _
   | exact LeO.none _
   | refine LeO.ite ?_ ?_
   | refine LeO.bind ?_ (fun _ => ?_)
theorem spec_VaBytes.mono : ∀ a0 k, LeO (spec_VaBytes.f k a0) (spec_VaBytes.f (k + 1) a0) := by
 intro a0 k
 obtain ⟨ih0, ih1⟩ := spec_VaBytes.mono_l k
 unfold spec_VaBytes.f
 repeat' first
   | (with_reducible exact ih0 _ _)
   | (with_reducible exact ih1 _ _ _)
   | (with_reducible exact spec_natShort.mono _ _ _)
   | (with_reducible exact LeO.refl _)
   | (with_reducible exact LeO.none _)
   | (with_reducible refine LeO.ite ?_ ?_)
   | (with_reducible refine LeO.bind ?_ (fun _ => ?_))
   | exact ih0 _ _
   | exact ih1 _ _ _
   | exact spec_natShort.mono _ _ _
   | exact LeO.none _
   | refine LeO.ite ?_ ?_
   | refine LeO.bind ?_ (fun _ => ?_)
def spec_VaBytes.T8 : Bool × List (List Nat × List Nat) := (true, [([], []), ([], []), ([], []), ([], []), ([], []), ([], []), ([4, 5], [4, 5]), ([6], [6]), ([], []), ([], []), ([8, 9], [8, 9]), ([10], [10]), ([0, 1, 0, 1, 4, 5, 6, 7, 11], [0, 1]), ([12, 7, 0, 1, 4, 5, 6, 7, 11], [7, 12]), ([2, 3, 0, 1, 2, 3, 4, 5, 6, 7, 8, 9, 10, 11, 12, 13], [2, 3]), ([14, 11, 13, 0, 1, 2, 3, 4, 5, 6, 7, 8, 9, 10, 11, 12, 13], [11, 14])])
def spec_VaBytes.B8 : List Nat := [0, 0, 0, 0, 0, 0, 48, 112, 0, 0, 768, 1792, 4083, 8179, 16383, 32767]
theorem spec_VaBytes.tab8 : rtab .any (opsOf Tryz.f25 8) = spec_VaBytes.T8 := by kernel_rfl
theorem spec_VaBytes.bits8 : waitsOk spec_VaBytes.T8.2 spec_VaBytes.B8 = true := by kernel_rfl
set_option maxHeartbeats 8000000 in
set_option maxRecDepth 100000 in
theorem spec_VaBytes.calls (k : Nat) (P0_ : Nat → Prop) (A0 : Option Addr) (c0 : Nat) (l0 : List Int) (r : List Int) (w : World) (hs0 : Kd.V (Kd.int .u32) 87 w w.heap.size (fun k_ => P0_ k_) (.slice A0 l0.length c0) l0) (h : spec_VaBytes.f k l0 = some r) :
  Calls Tryz.prog 25 #[.slice A0 l0.length c0] w fun e w' => ∃ v0_ : Value, e = .returned (v0_) ∧ Kd.R (Kd.int .u8) 5 w' w.heap.size (fun k_ => (w.heap.size ≤ k_)) v0_ r ∧ Below w.heap.size w w' := by
 have HO0 := Aside0.mk (show Kd.V (Kd.int .u32) 87 w w.heap.size (fun k_ => (P0_ k_ ∨ w.heap.size ≤ k_)) (.slice A0 l0.length c0) l0 from Kd.V_mono hs0 (fun k_ hk => .inl hk))
 have HB := Aside0.mk (Below.refl w.heap.size w)
 have H : (spec_VaBytes.l0 k l0 ([] : List Int)) = some r := h
 clear h
 have H' := Aside0.mk H
 clear H
 go_enter Tryz.func25, Tryz.ntmps25
 go_wp2
 go_loopg [0, 3] k (fun kq v0 v3 w' => ∃ (x0_1 : List Int) (x3_1 : List Int), Aside0 (spec_VaBytes.l0 kq x0_1 x3_1 = some r) ∧ Aside0 (kq ≤ k) ∧ Aside0 (Kd.V (Kd.int .u32) 87 w' w.heap.size (fun k_ => (P0_ k_ ∨ w.heap.size ≤ k_) ∧ some k_ ≠ (v3 : Value).ownBlock) v0 x0_1) ∧ Aside0 (Kd.R (Kd.int .u8) 5 w' w.heap.size (fun k_ => (w.heap.size ≤ k_)) v3 x3_1) ∧ Aside0 (Below w.heap.size w w'))
 case atStart => exact ⟨(l0), (([] : List Int)), H', ⟨Nat.le_refl _⟩, ⟨by (with_reducible repeat (first | apply Kd.V_alloc | apply Kd.V_drewN | apply Kd.V_drew)); exact Kd.V_mono HO0.out (fun _ hk => ⟨hk, (by simp [Value.ownBlock])⟩)⟩, ⟨by first | exact Kd.R_nil _ _ _ _ _ | exact Kd.N_nil _ _ _ _ _ | exact Kd.V_nil _ _ _ _ _ | exact Kd.Q_nil _ _ _ _ _ | exact Kd.S_nil _ _ _ _ _⟩, ⟨by repeat (first | (with_reducible first | exact HB.out | apply below_alloc | apply pw_below_drewN | apply below_drew1) | exact HB.out)⟩⟩
 case round =>
  clear H'
  obtain ⟨x0_1, x3_1, HA, HK1, HO_0, HO_3, HB⟩ := hrel
  cases gk with
  | zero => exact absurd HA.out (by simp [spec_VaBytes.l0])
  | succ k1 =>
   have H := HA.out
   clear HA
   simp only [spec_VaBytes.l0] at H
   by_cases c2 : (x0_1.length : Int) > 0
   ·rw [if_pos c2] at H
    have c2b0 : decide (0 < (x0_1.length : Int)) = true := decide_eq_true c2
    have c2b1 : decide (0 < x0_1.length) = true := decide_eq_true (by omega)
    clear c2
    replace H := Option.bind_eq_some_iff.mp H
    obtain ⟨⟨t356, t359⟩, A30, H⟩ := H
    replace H : (if x3_1.length < 140737488355328 then (spec_VaBytes.l0 k1 t356 (x3_1 ++ [(t359) % 256])) else (none)) = some r := H
    have A3 := Aside0.mk A30
    clear A30
    by_cases c4 : x3_1.length < 140737488355328
    ·rw [if_pos c4] at H
     have LMc4 := Aside0.mk c4
     clear c4
     obtain ⟨y360, hy360⟩ : ∃ y_ : List Int, y_ = (x3_1 ++ [(t359) % 256]) := ⟨_, rfl⟩
     replace H : (spec_VaBytes.l0 k1 t356 y360) = some r := by first | (rw [hy360]; with_reducible exact H) | (have H2_ := (Option.bind_some _ _).symm.trans H; rw [hy360]; with_reducible exact H2_) | (have H2_ := (Option.bind_some _ _).symm.trans H; with_reducible exact H2_) | with_reducible exact H | (rw [hy360]; exact H) | exact H
     have Ny360 := Aside0.mk hy360
     clear hy360
     have H' := Aside0.mk H
     clear H
     obtain ⟨Ao5, co5, eo5⟩ := Kd.V_slice HO_0.out
     subst eo5
     go_wp2_with (first | ((with_reducible refine gate_callee (f := 46) rfl ?_); refine goesL_ (some 13) rfl rfl Tryz.func46 (by kernel_rfl) rfl #[.slice Ao5 x0_1.length co5, .int .u32 256] rfl (by (try simp only [List.map_toArray, List.map_cons, List.map_nil]); first | done | rfl | (simp only [List.length_drop, List.length_take]; rfl)) ?_; (with_reducible refine (spec_natShort.calls k1 _ _ x0_1 256 t356 t359 _ ?side1 ?side2 A3.out).mono ?_); (case side1 => repeat (first | exact (Kd.V_reads' HO_0.out).2.2 | (with_reducible refine Kd.C_alloc ?_ _) | (with_reducible refine Kd.C_drewN ?_ _) | (with_reducible refine Kd.C_drew ?_))); (case side2 => exact (Kd.V_reads' HO_0.out).2.1); rintro e w6 ⟨v357, rfl, ho0, hb⟩; refine ⟨_, rfl, ?_⟩; have n0_ := Aside0.mk (Kd.V_below (by (with_reducible repeat (first | apply Kd.V_alloc | apply Kd.V_drewN | apply Kd.V_drew)); exact HO_0.out) hb); have n1_ := Aside0.mk (Kd.R_below (by (with_reducible repeat (first | apply Kd.R_alloc | apply Kd.R_drewN | apply Kd.R_drew)); exact HO_3.out) hb); have n2_ := Aside0.mk (Kd.V_lower (Kd.V_mono (ok' := fun k_ => (P0_ k_ ∨ w.heap.size ≤ k_) ∧ some k_ ≠ (u3 : Value).ownBlock) ho0 (fun k_ hk_ => ⟨(.inr (Nat.le_trans (below_size (by repeat (first | (with_reducible first | exact HB.out | apply below_alloc | apply pw_below_drewN | apply below_drew1) | exact HB.out))) hk_)), (Kd.fresh' (Kd.R_lt (by (with_reducible repeat (first | apply Kd.R_alloc | apply Kd.R_drewN | apply Kd.R_drew)); exact HO_3.out)) k_ hk_)⟩)) (below_size (by repeat (first | (with_reducible first | exact HB.out | apply below_alloc | apply pw_below_drewN | apply below_drew1) | exact HB.out)))); have n3_ := Aside0.mk (below_step (by repeat (first | (with_reducible first | exact HB.out | apply below_alloc | apply pw_below_drewN | apply below_drew1) | exact HB.out)) hb); clear HO_0; clear HO_3; clear HB; have HO_0 := n0_; have HO_3 := n1_; have HO358 := n2_; have HB := n3_; clear n0_ n1_ n2_ n3_; (try clear hb); (try clear hb2); (try clear hk); (try clear hi); (try clear ho0)) | ((with_reducible refine gate_builtin (b := .append) (xs := #[.tmp 16, .tmp 19]) rfl ?_); at_builtin; refine Kd.R_append (Kd.int .u8) (w0 := w) w.heap.size rfl (.tmp 16) (.tmp 19) 22 5 (.int .u8 0) 1 rfl Tryz.underlying22 info5 rfl (by decide) (by omega) u3 x3_1 ((t359) % 256) [.int .u8 ((t359) % 256)] (fun k_ => (w.heap.size ≤ k_)) (fun _ => False) rfl rfl ?aP (fun _ hk => hk.elim) ?aF ?aO ?aB ?aS ?aL ?_; (case aP => exact rfl); (case aB => exact (by repeat (first | (with_reducible first | exact HB.out | apply below_alloc | apply pw_below_drewN | apply below_drew1) | exact HB.out))); (case aF => exact (fun k_ hk => (Nat.le_trans (below_size (by repeat (first | (with_reducible first | exact HB.out | apply below_alloc | apply pw_below_drewN | apply below_drew1) | exact HB.out))) hk))); (case aO => exact (by (with_reducible repeat (first | apply Kd.R_alloc | apply Kd.R_drewN | apply Kd.R_drew)); exact HO_3.out)); (case aS => exact (below_size (by repeat (first | (with_reducible first | exact HB.out | apply below_alloc | apply pw_below_drewN | apply below_drew1) | exact HB.out)))); (case aL => have := LMc4.out; omega); intro v361 w7 ho hb hg hat; rw [← Ny360.out] at ho; have n0_ := Aside0.mk (Kd.V_afterv (ok := (fun k_ => (P0_ k_ ∨ w.heap.size ≤ k_))) (by (with_reducible repeat (first | apply Kd.V_alloc | apply Kd.V_drewN | apply Kd.V_drew)); exact HO_0.out) hg hat); have n1_ := Aside0.mk (Kd.V_afterv (ok := (fun k_ => (P0_ k_ ∨ w.heap.size ≤ k_))) (by (with_reducible repeat (first | apply Kd.V_alloc | apply Kd.V_drewN | apply Kd.V_drew)); exact HO358.out) hg hat); have n2_ := Aside0.mk (hb); have n3_ := Aside0.mk (ho); clear HO_0; clear HO358; clear HB; clear HO_3; have HO_0 := n0_; have HO358 := n1_; have HB := n2_; have HO362 := n3_; clear n0_ n1_ n2_ n3_; clear ho hb hg hat))
     go_roundg k1
     case measure => have := HK1.out; omega
     case rel => exact ⟨(t356), (y360), H', ⟨by have := HK1.out; omega⟩, ⟨by (with_reducible repeat (first | apply Kd.V_alloc | apply Kd.V_drewN | apply Kd.V_drew)); exact HO358.out⟩, ⟨by (with_reducible repeat (first | apply Kd.R_alloc | apply Kd.R_drewN | apply Kd.R_drew)); exact HO362.out⟩, ⟨by repeat (first | (with_reducible first | exact HB.out | apply below_alloc | apply pw_below_drewN | apply below_drew1) | exact HB.out)⟩⟩
    ·rw [if_neg c4] at H
     exact absurd H (by simp)
   ·rw [if_neg c2] at H
    have c2b0 : decide (0 < (x0_1.length : Int)) = false := decide_eq_false c2
    have c2b1 : decide (0 < x0_1.length) = false := decide_eq_false (by omega)
    clear c2
    have H' := Aside0.mk H
    clear H
    obtain ⟨Ao8, co8, eo8⟩ := Kd.V_slice HO_0.out
    subst eo8
    obtain ⟨Ao9, co9, eo9⟩ := Kd.R_slice HO_3.out
    subst eo9
    go_wp2
    go_loopg [6, 7] k1 (fun kq v6 v7 w' => ∃ (x3_2 : List Int) (x6_2 : Int) (x7_2 : Int), v6 = .int .i64 x6_2 ∧ v7 = .int .i64 x7_2 ∧ Aside0 (spec_VaBytes.l1 kq x3_2 x6_2 x7_2 = some r) ∧ Aside0 (kq ≤ k1) ∧ Aside0 (Kd.R (Kd.int .u8) 5 w' w.heap.size (fun k_ => (w.heap.size ≤ k_)) (.slice Ao9 x3_1.length co9) x3_2) ∧ Aside0 (Below w.heap.size w w'))
    case atStart => exact ⟨(x3_1), (0), (wrap64 ((x3_1.length : Int) - 1)), (by first | rfl | (simp; done) | (simp [*]; done)), (by first | rfl | (simp; done) | (simp [*]; done)), H', ⟨Nat.le_refl _⟩, ⟨by (with_reducible repeat (first | apply Kd.R_alloc | apply Kd.R_drewN | apply Kd.R_drew)); exact HO_3.out⟩, ⟨by repeat (first | (with_reducible first | exact HB.out | apply below_alloc | apply pw_below_drewN | apply below_drew1) | exact HB.out)⟩⟩
    case round =>
     clear H'
     try clear c2
     try clear c2b0
     try clear c2b1
     try clear p2
     try clear c4
     try clear p6
     obtain ⟨x3_2, x6_2, x7_2, rfl, rfl, HA, HK2, HO_3, HB⟩ := hrel
     have hl3_2 := (Kd.R_reads' HO_3.out).1
     rw [hl3_2] at HO_3
     (try simp only [hl3_2])
     cases gk with
     | zero => exact absurd HA.out (by simp [spec_VaBytes.l1])
     | succ k2 =>
      have H := HA.out
      clear HA
      simp only [spec_VaBytes.l1] at H
      by_cases c10 : x6_2 < x7_2
      ·rw [if_pos c10] at H
       have c10b0 : decide (x6_2 < x7_2) = true := decide_eq_true c10
       clear c10
       by_cases c11 : 0 ≤ x7_2
       ·rw [if_pos c11] at H
        have c11b0 : decide (0 ≤ x7_2) = true := decide_eq_true c11
        clear c11
        by_cases c12 : x7_2 < (x3_2.length : Int)
        ·rw [if_pos c12] at H
         have c12b0 : decide (x7_2 < (x3_2.length : Int)) = true := decide_eq_true c12
         clear c12
         by_cases c13 : 0 ≤ x6_2
         ·rw [if_pos c13] at H
          have c13b0 : decide (0 ≤ x6_2) = true := decide_eq_true c13
          clear c13
          by_cases c14 : x6_2 < (x3_2.length : Int)
          ·rw [if_pos c14] at H
           have c14b0 : decide (x6_2 < (x3_2.length : Int)) = true := decide_eq_true c14
           clear c14
           obtain ⟨y365, hy365⟩ : ∃ y_ : List Int, y_ = (x3_2.set (x6_2 : Int).toNat (rd x3_2 x7_2)) := ⟨_, rfl⟩
           replace H : (spec_VaBytes.l1 k2 (y365.set (x7_2 : Int).toNat (rd x3_2 x6_2)) (wrap64 (x6_2 + 1)) (wrap64 (x7_2 - 1))) = some r := by first | (rw [hy365]; with_reducible exact H) | (have H2_ := (Option.bind_some _ _).symm.trans H; rw [hy365]; with_reducible exact H2_) | (have H2_ := (Option.bind_some _ _).symm.trans H; with_reducible exact H2_) | with_reducible exact H | (rw [hy365]; exact H) | exact H
           have Ny365 := Aside0.mk hy365
           clear hy365
           obtain ⟨y366, hy366⟩ : ∃ y_ : List Int, y_ = (y365.set (x7_2 : Int).toNat (rd x3_2 x6_2)) := ⟨_, rfl⟩
           replace H : (spec_VaBytes.l1 k2 y366 (wrap64 (x6_2 + 1)) (wrap64 (x7_2 - 1))) = some r := by first | (rw [hy366]; with_reducible exact H) | (have H2_ := (Option.bind_some _ _).symm.trans H; rw [hy366]; with_reducible exact H2_) | (have H2_ := (Option.bind_some _ _).symm.trans H; with_reducible exact H2_) | with_reducible exact H | (rw [hy366]; exact H) | exact H
           have Ny366 := Aside0.mk hy366
           clear hy366
           have H' := Aside0.mk H
           clear H
           try go_wp2
           have n0_ := Aside0.mk (Kd.R_drew HO_3.out)
           have n1_ := Aside0.mk (below_drew1 HB.out)
           clear HO_3
           clear HB
           have HO_3 := n0_
           have HB := n1_
           clear n0_ n1_
           have p363 : 0 ≤ (x7_2 : Int) := of_decide_eq_true (by first | (with_reducible assumption) | assumption)
           have q363 : x7_2 < (x3_2.length : Int) := of_decide_eq_true (by first | (with_reducible assumption) | assumption)
           obtain ⟨ad363, e363, hx363_0⟩ := Kd.at_int (Kd.R_reads' HO_3.out).2.2 x7_2 p363 q363
           cases e363
           replace p363 := eq_true p363
           replace q363 := eq_true q363
           have p364 : 0 ≤ (x6_2 : Int) := of_decide_eq_true (by first | (with_reducible assumption) | assumption)
           have q364 : x6_2 < (x3_2.length : Int) := of_decide_eq_true (by first | (with_reducible assumption) | assumption)
           obtain ⟨ad364, e364, hx364_0⟩ := Kd.at_int (Kd.R_reads' HO_3.out).2.2 x6_2 p364 q364
           obtain rfl : ad363 = ad364 := (by injection e364)
           replace p364 := eq_true p364
           replace q364 := eq_true q364
           have p15 : 0 ≤ (x6_2 : Int) := of_decide_eq_true (by first | (with_reducible assumption) | assumption)
           have q15 : (x6_2 : Int) < ((x3_2.length : Int) : Int) := of_decide_eq_true (by first | (with_reducible assumption) | assumption)
           obtain ⟨go15, co15, eo15, gb15, gl15, cl15, HG15⟩ := Kd.R_form HO_3.out (by omega)
           (first | cases eo15 | (injection eo15 with ea_ en_ ec_; (first | subst ea_ | (injection ea_ with ea_; subst ea_)); subst ec_; clear en_))
           have GB15 := Aside0.mk gb15
           have GG15 := Aside0.mk HG15
           clear gb15 gl15 HG15
           (first | simp only [add_plain] at hx363_0 | skip)
           (first | simp only [add_plain] at hx364_0 | skip)
           obtain ⟨hx15_0, hf15_0⟩ := Kd.R_celln 0 HO_3.out (x6_2 : Int) p15 q15
           replace p15 := eq_true p15
           replace q15 := eq_true q15
           have HP18 := Kd.R_putn HO_3.out (x6_2 : Int) (rd x3_2 x7_2)
           rw [← Ny365.out] at HP18
           have HQ18 := Aside0.mk HP18
           clear HP18
           have p16 : 0 ≤ (x7_2 : Int) := of_decide_eq_true (by first | (with_reducible assumption) | assumption)
           have q16 : (x7_2 : Int) < ((x3_2.length : Int) : Int) := of_decide_eq_true (by first | (with_reducible assumption) | assumption)
           obtain ⟨hx16_0, hf16_0⟩ := Kd.R_celln 0 HQ18.out (x7_2 : Int) p16 q16
           replace p16 := eq_true p16
           replace q16 := eq_true q16
           have HP19 := Kd.R_putn HQ18.out (x7_2 : Int) (rd x3_2 x6_2)
           rw [← Ny366.out] at HP19
           have HQ19 := Aside0.mk HP19
           clear HP19
           refine start_ (n := 16) (S := fun w' => w'.cell? ⟨go15, (x7_2).toNat, none⟩ = some (.int .u8 (rd x3_2 x7_2)) ∧ w'.cell? ⟨go15, (x6_2).toNat, none⟩ = some (.int .u8 (rd x3_2 x6_2))) (ds := [13, 15]) z152 (by kernel_rfl) rfl rfl ⟨hx363_0, hx364_0⟩ (fun hHeld => ?_); refine with_tabW spec_VaBytes.tab8 spec_VaBytes.bits8 (fun HT_ HW_ => ?_)
           generalize wr.drew = w17 at HO_3 HB GG15 HQ18 HQ19 hf15_0 hf16_0 hx15_0 hx16_0 hx363_0 hx364_0 hHeld ⊢
           refine pure_ (i := 0) (N := some 32) (v := ?_) (a' := ?_) z153 rfl rfl (any_of HT_.out (by kernel_rfl)) (fun _ _ _ h => h) (Or.inl ⟨by rfl, ?_⟩) ?_ ?_
           rotate_left
           ·intro w'
            go_simp
            with_reducible rfl
           rotate_left
           ·simp only [Act.put, sA, sB, sC, i64_w, i32_w]
            rfl
           refine pure_ (i := 1) (N := some 33) (v := ?_) (a' := ?_) z154 rfl rfl (any_of HT_.out (by kernel_rfl)) (fun _ _ _ h => h) (Or.inl ⟨by rfl, ?_⟩) ?_ ?_
           rotate_left
           ·intro w'
            go_simp
            with_reducible rfl
           rotate_left
           ·simp only [Act.put, sA, sB, sC, i64_w, i32_w]
            rfl
           refine pure_ (i := 2) (N := some 34) (v := ?_) (a' := ?_) z155 rfl rfl (any_of HT_.out (by kernel_rfl)) (fun _ _ _ h => h) (Or.inl ⟨by rfl, ?_⟩) ?_ ?_
           rotate_left
           ·intro w'
            go_simp
            with_reducible rfl
           rotate_left
           ·simp only [Act.put, sA, sB, sC, i64_w, i32_w]
            rfl
           refine pure_ (i := 3) (N := some 35) (v := ?_) (a' := ?_) z156 rfl rfl (any_of HT_.out (by kernel_rfl)) (fun _ _ _ h => h) (Or.inl ⟨by rfl, ?_⟩) ?_ ?_
           rotate_left
           ·intro w'
            go_simp
            with_reducible rfl
           rotate_left
           ·simp only [Act.put, sA, sB, sC, i64_w, i32_w]
            rfl
           refine pure_ (i := 4) (N := some 36) (v := ?_) (a' := ?_) z157 rfl rfl (any_of HT_.out (by kernel_rfl)) (fun _ _ _ h => h) (Or.inl ⟨by rfl, ?_⟩) ?_ ?_
           rotate_left
           ·intro w'
            go_simp
            with_reducible rfl
           rotate_left
           ·simp only [Act.put, sA, sB, sC, i64_w, i32_w]
            rfl
           refine pure_ (i := 5) (N := some 37) (v := ?_) (a' := ?_) z158 rfl rfl (any_of HT_.out (by kernel_rfl)) (fun _ _ _ h => h) (Or.inl ⟨by rfl, ?_⟩) ?_ ?_
           rotate_left
           ·intro w'
            go_simp
            with_reducible rfl
           rotate_left
           ·simp only [Act.put, sA, sB, sC, i64_w, i32_w]
            rfl
           refine pure_ (i := 6) (N := some 38) (v := ?_) (a' := ?_) z159 rfl rfl (any_of HT_.out (by kernel_rfl)) (fun _ _ _ h => h) (Or.inl ⟨by rfl, ?_⟩) ?_ ?_
           rotate_left
           ·intro w'
            go_simp
            with_reducible rfl
           rotate_left
           ·simp only [Act.put, sA, sB, sC, i64_w, i32_w]
            rfl
           refine pure_ (i := 8) (N := some 40) (v := ?_) (a' := ?_) z160 rfl rfl (any_of HT_.out (by kernel_rfl)) (fun _ _ _ h => h) (Or.inl ⟨by rfl, ?_⟩) ?_ ?_
           rotate_left
           ·intro w'
            go_simp
            with_reducible rfl
           rotate_left
           ·simp only [Act.put, sA, sB, sC, i64_w, i32_w]
            rfl
           refine pure_ (i := 9) (N := some 41) (v := ?_) (a' := ?_) z161 rfl rfl (any_of HT_.out (by kernel_rfl)) (fun _ _ _ h => h) (Or.inl ⟨by rfl, ?_⟩) ?_ ?_
           rotate_left
           ·intro w'
            go_simp
            with_reducible rfl
           rotate_left
           ·simp only [Act.put, sA, sB, sC, i64_w, i32_w]
            rfl
           refine pure_ (i := 10) (N := some 42) (v := ?_) (a' := ?_) z162 rfl rfl (any_of HT_.out (by kernel_rfl)) (fun _ _ _ h => h) (Or.inl ⟨by rfl, ?_⟩) ?_ ?_
           rotate_left
           ·intro w'
            go_simp
            with_reducible rfl
           rotate_left
           ·simp only [Act.put, sA, sB, sC, i64_w, i32_w]
            rfl
           refine take_ (i := 7) (N := some 39) (v := ?_) (a' := ?_) z163 rfl rfl (take_ofW HT_.out HW_.out (by kernel_rfl)) (fun _ _ _ h => h) (Or.inl ⟨by rfl, ?_⟩) hHeld ?_ ?_
           rotate_left
           ·rintro w' ⟨s0, s1⟩
            go_simp
            with_reducible rfl
           rotate_left
           ·simp only [Act.put, sA, sB, sC, i64_w, i32_w]
            rfl
           refine take_ (i := 11) (N := some 43) (v := ?_) (a' := ?_) z164 rfl rfl (take_ofW HT_.out HW_.out (by kernel_rfl)) (fun _ _ _ h => h) (Or.inl ⟨by rfl, ?_⟩) hHeld ?_ ?_
           rotate_left
           ·rintro w' ⟨s0, s1⟩
            go_simp
            with_reducible rfl
           rotate_left
           ·simp only [Act.put, sA, sB, sC, i64_w, i32_w]
            rfl
           refine pure_ (i := 12) (N := some 44) (v := ?_) (a' := ?_) z165 rfl rfl (any_of HT_.out (by kernel_rfl)) (fun _ _ _ h => h) (Or.inl ⟨by rfl, ?_⟩) ?_ ?_
           rotate_left
           ·intro w'
            go_simp
            with_reducible rfl
           rotate_left
           ·simp only [Act.put, sA, sB, sC, i64_w, i32_w]
            rfl
           refine last_ (i := 13) (N := none) z166 rfl rfl (one_of HT_.out (by kernel_rfl)) (by decide) (fun K hK => ?_)
           refine skip_ (w1 := ?_) (by rfl) rfl ?_ ?_
           rotate_left
           ·go_simp
            rfl
           refine hK.out _ _ ?_
           clear hK K
           refine pure_ (i := 14) (N := some 45) (v := ?_) (a' := ?_) z167 rfl rfl (any_of HT_.out (by kernel_rfl)) (fun _ _ _ h => h) (Or.inl ⟨by rfl, ?_⟩) ?_ ?_
           rotate_left
           ·intro w'
            go_simp
            with_reducible rfl
           rotate_left
           ·simp only [Act.put, sA, sB, sC, i64_w, i32_w]
            rfl
           refine last_ (i := 15) (N := none) z168 rfl rfl (one_of HT_.out (by kernel_rfl)) (by decide) (fun K hK => ?_)
           refine skip_ (w1 := ?_) (by rfl) rfl ?_ ?_
           rotate_left
           ·go_simp
            rfl
           refine hK.out _ _ ?_
           clear hK K
           refine done_ (done_of HT_.out (by kernel_rfl)) ?_
           try go_wp2
           (try simp only [← hl3_2])
           go_roundg k2
           case measure => have := HK1.out; have := HK2.out; omega
           case rel => exact ⟨(y366), (wrap64 (x6_2 + 1)), (wrap64 (x7_2 - 1)), (by first | rfl | (simp; done) | (simp [*]; done)), (by first | rfl | (simp; done) | (simp [*]; done)), H', ⟨by have := HK1.out; have := HK2.out; omega⟩, ⟨by (try simp only [hl3_2]); (with_reducible repeat (first | apply Kd.R_alloc | apply Kd.R_drewN | apply Kd.R_drew)); exact HQ19.out⟩, ⟨by repeat (first | (with_reducible first | exact HB.out | apply below_alloc | apply pw_below_drewN | apply below_drew1 | refine below_set ?_ GB15.out | refine below_set ?_ GB15.out) | exact HB.out)⟩⟩
          ·rw [if_neg c14] at H
           exact absurd H (by simp)
         ·rw [if_neg c13] at H
          exact absurd H (by simp)
        ·rw [if_neg c12] at H
         exact absurd H (by simp)
       ·rw [if_neg c11] at H
        exact absurd H (by simp)
      ·rw [if_neg c10] at H
       have c10b0 : decide (x6_2 < x7_2) = false := decide_eq_false c10
       clear c10
       obtain rfl := Option.some.inj H
       go_wp2
       go_ret
       exact ⟨_, by first | rfl | (simp [errW_none, errW_some] <;> rfl) | (simp [*, errW_none, errW_some] <;> rfl), by (with_reducible repeat (first | apply Kd.R_alloc | apply Kd.R_drewN | apply Kd.R_drew)); exact HO_3.out, by repeat (first | (with_reducible first | exact HB.out | apply below_alloc | apply pw_below_drewN | apply below_drew1) | exact HB.out)⟩
def spec_NatCmp.l0 : Nat → List Int → List Int → Int → Option (Int)
 | 0, _, _, _ => none
 | k + 1, x0, x1, x5 => if x5 ≥ 0 then (if 0 ≤ x5 then (if x5 < (x0.length : Int) then (if x5 < (x1.length : Int) then (if (rd x0 x5) = (rd x1 x5) then (spec_NatCmp.l0 k x0 x1 (wrap64 (x5 - 1))) else (if (rd x0 x5) < (rd x1 x5) then (some (-1)) else (some 1))) else (none)) else (none)) else (none)) else (some 0)
def spec_NatCmp.f (k : Nat) (l0 : List Int) (l1 : List Int) : Option (Int) := if (l0.length : Int) = (l1.length : Int) then (spec_NatCmp.l0 k l0 l1 (wrap64 ((l0.length : Int) - 1))) else (if (l0.length : Int) < (l1.length : Int) then (some (-1)) else (some 1))
theorem spec_NatCmp.mono_l : ∀ k, (∀ y0 y1 y2, LeO (spec_NatCmp.l0 k y0 y1 y2) (spec_NatCmp.l0 (k + 1) y0 y1 y2))
 | 0 => fun _ _ _ r h => by simp [spec_NatCmp.l0] at h
 | k + 1 => by
  have ih0 := spec_NatCmp.mono_l k
  ·intro y0 y1 y2
   unfold spec_NatCmp.l0
   repeat' first
   | (with_reducible exact ih0 _ _ _)
   | (with_reducible exact LeO.refl _)
   | (with_reducible exact LeO.none _)
   | (with_reducible refine LeO.ite ?_ ?_)
   | (with_reducible refine LeO.bind ?_ (fun _ => ?_))
   | exact ih0 _ _ _
   | exact LeO.none _
   | refine LeO.ite ?_ ?_
   | refine LeO.bind ?_ (fun _ => ?_)
theorem spec_NatCmp.mono : ∀ a0 a1 k, LeO (spec_NatCmp.f k a0 a1) (spec_NatCmp.f (k + 1) a0 a1) := by
 intro a0 a1 k
 have ih0 := spec_NatCmp.mono_l k
 unfold spec_NatCmp.f
 repeat' first
   | (with_reducible exact ih0 _ _ _)
   | (with_reducible exact LeO.refl _)
   | (with_reducible exact LeO.none _)
   | (with_reducible refine LeO.ite ?_ ?_)
   | (with_reducible refine LeO.bind ?_ (fun _ => ?_))
   | exact ih0 _ _ _
   | exact LeO.none _
   | refine LeO.ite ?_ ?_
   | refine LeO.bind ?_ (fun _ => ?_)
set_option maxHeartbeats 8000000 in
set_option maxRecDepth 100000 in
theorem spec_NatCmp.calls (k : Nat) (A0 : Option Addr) (c0 : Nat) (l0 : List Int) (A1 : Option Addr) (c1 : Nat) (l1 : List Int) (r : Int) (w : World) (hr0 : Kd.C (Kd.int .u32) w A0 l0.length l0) (hc0 : l0.length ≤ c0) (hr1 : Kd.C (Kd.int .u32) w A1 l1.length l1) (hc1 : l1.length ≤ c1) (h : spec_NatCmp.f k l0 l1 = some r) :
  Calls Tryz.prog 106 #[.slice A0 l0.length c0, .slice A1 l1.length c1] w fun e w' => e = .returned (.int .i64 r) ∧ Drawn0 w w' := by
 have HR0 := Aside0.mk hr0
 have HC0 := Aside0.mk hc0
 clear hr0 hc0
 have HR1 := Aside0.mk hr1
 have HC1 := Aside0.mk hc1
 clear hr1 hc1
 have H : (if (l0.length : Int) = (l1.length : Int) then (spec_NatCmp.l0 k l0 l1 (wrap64 ((l0.length : Int) - 1))) else (if (l0.length : Int) < (l1.length : Int) then (some (-1)) else (some 1))) = some r := h
 clear h
 by_cases c3 : (l0.length : Int) = (l1.length : Int)
 ·rw [if_pos c3] at H
  have c3b0 : ((l0.length : Int) == (l1.length : Int)) = true := beq_iff_eq.mpr c3
  have c3b1 : ((l0.length : Int) != (l1.length : Int)) = false := bne_eq_false_iff_eq.mpr c3
  have c3b2 : (l0.length == l1.length) = true := by first | simpa using c3 | (simp at c3 ⊢; omega)
  clear c3
  have H' := Aside0.mk H
  clear H
  go_enter Tryz.func106, Tryz.ntmps106
  go_wp2
  repeat (go_quiet (fail); try go_wp2)
  go_loopg [5] k (fun kq v5 w' => ∃ (x5_1 : Int), v5 = .int .i64 x5_1 ∧ Aside0 (spec_NatCmp.l0 kq l0 l1 x5_1 = some r) ∧ Aside0 (kq ≤ k) ∧ Drawn0 w w')
  case atStart => exact ⟨(wrap64 ((l0.length : Int) - 1)), (by first | rfl | (simp; done) | (simp [*]; done)), H', ⟨Nat.le_refl _⟩, by repeat (first | exact Drawn0.refl _ | apply Drawn0.step)⟩
  case round =>
   clear H'
   try clear c1
   try clear p2
   try clear c3
   try clear c3b0
   try clear c3b1
   try clear c3b2
   obtain ⟨x5_1, rfl, HA, HK1, ⟨m1, rfl⟩⟩ := hrel
   cases gk with
   | zero => exact absurd HA.out (by simp [spec_NatCmp.l0])
   | succ k1 =>
    have H := HA.out
    clear HA
    simp only [spec_NatCmp.l0] at H
    by_cases c4 : x5_1 ≥ 0
    ·rw [if_pos c4] at H
     have c4b0 : decide (0 ≤ x5_1) = true := decide_eq_true c4
     clear c4
     by_cases c5 : 0 ≤ x5_1
     ·rw [if_pos c5] at H
      have c5b0 : decide (0 ≤ x5_1) = true := decide_eq_true c5
      clear c5
      by_cases c6 : x5_1 < (l0.length : Int)
      ·rw [if_pos c6] at H
       have c6b0 : decide (x5_1 < (l0.length : Int)) = true := decide_eq_true c6
       clear c6
       by_cases c7 : x5_1 < (l1.length : Int)
       ·rw [if_pos c7] at H
        have c7b0 : decide (x5_1 < (l1.length : Int)) = true := decide_eq_true c7
        clear c7
        by_cases c8 : (rd l0 x5_1) = (rd l1 x5_1)
        ·rw [if_pos c8] at H
         have c8b0 : ((rd l0 x5_1) == (rd l1 x5_1)) = true := beq_iff_eq.mpr c8
         have c8b1 : ((rd l0 x5_1) != (rd l1 x5_1)) = false := bne_eq_false_iff_eq.mpr c8
         clear c8
         have H' := Aside0.mk H
         clear H
         have p440 : 0 ≤ (x5_1 : Int) := of_decide_eq_true (by first | (with_reducible assumption) | assumption)
         have q440 : x5_1 < (l0.length : Int) := of_decide_eq_true (by first | (with_reducible assumption) | assumption)
         obtain ⟨ad440, e440, hx440_0⟩ := Kd.at_int HR0.out x5_1 p440 q440
         cases e440
         replace p440 := eq_true p440
         replace q440 := eq_true q440
         have p441 : 0 ≤ (x5_1 : Int) := of_decide_eq_true (by first | (with_reducible assumption) | assumption)
         have q441 : x5_1 < (l1.length : Int) := of_decide_eq_true (by first | (with_reducible assumption) | assumption)
         obtain ⟨ad441, e441, hx441_0⟩ := Kd.at_int HR1.out x5_1 p441 q441
         cases e441
         replace p441 := eq_true p441
         replace q441 := eq_true q441
         go_wp2
         repeat (go_quiet (fail); try go_wp2)
         go_roundg k1
         case measure => have := HK1.out; omega
         case rel => exact ⟨(wrap64 (x5_1 - 1)), (by first | rfl | (simp; done) | (simp [*]; done)), H', ⟨by have := HK1.out; omega⟩, by repeat (first | exact Drawn0.refl _ | apply Drawn0.step)⟩
        ·rw [if_neg c8] at H
         have c8b0 : ((rd l0 x5_1) == (rd l1 x5_1)) = false := beq_eq_false_iff_ne.mpr c8
         have c8b1 : ((rd l0 x5_1) != (rd l1 x5_1)) = true := bne_iff_ne.mpr c8
         by_cases c9 : (rd l0 x5_1) < (rd l1 x5_1)
         ·rw [if_pos c9] at H
          have c9b0 : decide ((rd l0 x5_1) < (rd l1 x5_1)) = true := decide_eq_true c9
          clear c9
          obtain rfl := Option.some.inj H
          have p440 : 0 ≤ (x5_1 : Int) := of_decide_eq_true (by first | (with_reducible assumption) | assumption)
          have q440 : x5_1 < (l0.length : Int) := of_decide_eq_true (by first | (with_reducible assumption) | assumption)
          obtain ⟨ad440, e440, hx440_0⟩ := Kd.at_int HR0.out x5_1 p440 q440
          cases e440
          replace p440 := eq_true p440
          replace q440 := eq_true q440
          have p441 : 0 ≤ (x5_1 : Int) := of_decide_eq_true (by first | (with_reducible assumption) | assumption)
          have q441 : x5_1 < (l1.length : Int) := of_decide_eq_true (by first | (with_reducible assumption) | assumption)
          obtain ⟨ad441, e441, hx441_0⟩ := Kd.at_int HR1.out x5_1 p441 q441
          cases e441
          replace p441 := eq_true p441
          replace q441 := eq_true q441
          have p442 : 0 ≤ (x5_1 : Int) := of_decide_eq_true (by first | (with_reducible assumption) | assumption)
          have q442 : x5_1 < (l0.length : Int) := of_decide_eq_true (by first | (with_reducible assumption) | assumption)
          obtain ⟨ad442, e442, hx442_0⟩ := Kd.at_int HR0.out x5_1 p442 q442
          obtain rfl : ad440 = ad442 := (by injection e442)
          replace p442 := eq_true p442
          replace q442 := eq_true q442
          have p443 : 0 ≤ (x5_1 : Int) := of_decide_eq_true (by first | (with_reducible assumption) | assumption)
          have q443 : x5_1 < (l1.length : Int) := of_decide_eq_true (by first | (with_reducible assumption) | assumption)
          obtain ⟨ad443, e443, hx443_0⟩ := Kd.at_int HR1.out x5_1 p443 q443
          obtain rfl : ad441 = ad443 := (by injection e443)
          replace p443 := eq_true p443
          replace q443 := eq_true q443
          go_wp2
          repeat (go_quiet (fail); try go_wp2)
          go_ret
          exact ⟨by first | rfl | (simp; done) | (simp [*]; done), by repeat (first | exact Drawn0.refl _ | apply Drawn0.step)⟩
         ·rw [if_neg c9] at H
          have c9b0 : decide ((rd l0 x5_1) < (rd l1 x5_1)) = false := decide_eq_false c9
          clear c9
          obtain rfl := Option.some.inj H
          have p440 : 0 ≤ (x5_1 : Int) := of_decide_eq_true (by first | (with_reducible assumption) | assumption)
          have q440 : x5_1 < (l0.length : Int) := of_decide_eq_true (by first | (with_reducible assumption) | assumption)
          obtain ⟨ad440, e440, hx440_0⟩ := Kd.at_int HR0.out x5_1 p440 q440
          cases e440
          replace p440 := eq_true p440
          replace q440 := eq_true q440
          have p441 : 0 ≤ (x5_1 : Int) := of_decide_eq_true (by first | (with_reducible assumption) | assumption)
          have q441 : x5_1 < (l1.length : Int) := of_decide_eq_true (by first | (with_reducible assumption) | assumption)
          obtain ⟨ad441, e441, hx441_0⟩ := Kd.at_int HR1.out x5_1 p441 q441
          cases e441
          replace p441 := eq_true p441
          replace q441 := eq_true q441
          have p442 : 0 ≤ (x5_1 : Int) := of_decide_eq_true (by first | (with_reducible assumption) | assumption)
          have q442 : x5_1 < (l0.length : Int) := of_decide_eq_true (by first | (with_reducible assumption) | assumption)
          obtain ⟨ad442, e442, hx442_0⟩ := Kd.at_int HR0.out x5_1 p442 q442
          obtain rfl : ad440 = ad442 := (by injection e442)
          replace p442 := eq_true p442
          replace q442 := eq_true q442
          have p443 : 0 ≤ (x5_1 : Int) := of_decide_eq_true (by first | (with_reducible assumption) | assumption)
          have q443 : x5_1 < (l1.length : Int) := of_decide_eq_true (by first | (with_reducible assumption) | assumption)
          obtain ⟨ad443, e443, hx443_0⟩ := Kd.at_int HR1.out x5_1 p443 q443
          obtain rfl : ad441 = ad443 := (by injection e443)
          replace p443 := eq_true p443
          replace q443 := eq_true q443
          go_wp2
          repeat (go_quiet (fail); try go_wp2)
          go_ret
          exact ⟨by first | rfl | (simp; done) | (simp [*]; done), by repeat (first | exact Drawn0.refl _ | apply Drawn0.step)⟩
       ·rw [if_neg c7] at H
        exact absurd H (by simp)
      ·rw [if_neg c6] at H
       exact absurd H (by simp)
     ·rw [if_neg c5] at H
      exact absurd H (by simp)
    ·rw [if_neg c4] at H
     have c4b0 : decide (0 ≤ x5_1) = false := decide_eq_false c4
     clear c4
     obtain rfl := Option.some.inj H
     go_wp2
     repeat (go_quiet (fail); try go_wp2)
     go_ret
     exact ⟨by first | rfl | (simp; done) | (simp [*]; done), by repeat (first | exact Drawn0.refl _ | apply Drawn0.step)⟩
 ·rw [if_neg c3] at H
  have c3b0 : ((l0.length : Int) == (l1.length : Int)) = false := beq_eq_false_iff_ne.mpr c3
  have c3b1 : ((l0.length : Int) != (l1.length : Int)) = true := bne_iff_ne.mpr c3
  have c3b2 : (l0.length == l1.length) = false := by first | simpa using c3 | (simp at c3 ⊢; omega)
  by_cases c10 : (l0.length : Int) < (l1.length : Int)
  ·rw [if_pos c10] at H
   have c10b0 : decide ((l0.length : Int) < (l1.length : Int)) = true := decide_eq_true c10
   have c10b1 : decide (l0.length < l1.length) = true := decide_eq_true (Int.ofNat_lt.mp c10)
   clear c10
   obtain rfl := Option.some.inj H
   go_enter Tryz.func106, Tryz.ntmps106
   go_wp2
   repeat (go_quiet (fail); try go_wp2)
   go_ret
   exact ⟨by first | rfl | (simp; done) | (simp [*]; done), by repeat (first | exact Drawn0.refl _ | apply Drawn0.step)⟩
  ·rw [if_neg c10] at H
   have c10b0 : decide ((l0.length : Int) < (l1.length : Int)) = false := decide_eq_false c10
   have c10b1 : decide (l0.length < l1.length) = false := decide_eq_false (fun h => c10 (Int.ofNat_lt.mpr h))
   clear c10
   obtain rfl := Option.some.inj H
   go_enter Tryz.func106, Tryz.ntmps106
   go_wp2
   repeat (go_quiet (fail); try go_wp2)
   go_ret
   exact ⟨by first | rfl | (simp; done) | (simp [*]; done), by repeat (first | exact Drawn0.refl _ | apply Drawn0.step)⟩
end Go.Proofs.YtgamldefngehlaaGreatDoor.PFnVaFieldDecimals
