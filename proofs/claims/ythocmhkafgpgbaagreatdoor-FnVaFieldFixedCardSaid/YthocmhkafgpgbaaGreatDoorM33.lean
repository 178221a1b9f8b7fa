/- The reference's functions: part E. -/
import Derived.Test.YthocmhkafgpgbaaGreatDoorM29
import Derived.Test.YthocmhkafgpgbaaGreatDoorM32
namespace Go.Proofs.YthocmhkafgpgbaaGreatDoor.PFnVaFieldFixed
open Go.RowKit Go.Proofs.YthocmhkafgpgbaaGreatDoorW.PrintWords Go.Proofs.YthocmhkafgpgbaaGreatDoorW.PrintLast Go.Proofs.YthocmhkafgpgbaaGreatDoorW.PrintMore
attribute [local go_sem] max2_int min2_int max_two min_two max_three min_three max_four min_four
set_option linter.unusedVariables false
set_option linter.unusedSimpArgs false
mutual
def spec_VaBytes.l0 : Nat → List Int → List Int → Option (List Int)
 | 0, _, _ => none
 | k + 1, x0, x3 => if (x0.length : Int) > 0 then ((spec_natShort.f k x0 256).bind fun bt200 => (if x3.length < 140737488355328 then (spec_VaBytes.l0 k bt200.1 (x3 ++ [(bt200.2) % 256])) else (none))) else (spec_VaBytes.l1 k x3 0 (wrap64 ((x3.length : Int) - 1)))
def spec_VaBytes.l1 : Nat → List Int → Int → Int → Option (List Int)
 | 0, _, _, _ => none
 | k + 1, x3, x6, x7 => if x6 < x7 then (if 0 ≤ x7 then (if x7 < (x3.length : Int) then (if 0 ≤ x6 then (if x6 < (x3.length : Int) then (spec_VaBytes.l1 k ((x3.set (x6 : Int).toNat (rd x3 x7)).set (x7 : Int).toNat (rd x3 x6)) (wrap64 (x6 + 1)) (wrap64 (x7 - 1))) else (none)) else (none)) else (none)) else (none)) else (some x3)
end
def spec_VaBytes.f (k : Nat) (l0 : List Int) : Option (List Int) := spec_VaBytes.l0 k l0 ([] : List Int)
theorem spec_VaBytes.mono_l : ∀ k, (∀ y0 y1, LeO (spec_VaBytes.l0 k y0 y1) (spec_VaBytes.l0 (k + 1) y0 y1)) ∧ (∀ y0 y1 y2, LeO (spec_VaBytes.l1 k y0 y1 y2) (spec_VaBytes.l1 (k + 1) y0 y1 y2))
 | 0 => ⟨fun _ _ r h => by simp [spec_VaBytes.l0] at h, fun _ _ _ r h => by simp [spec_VaBytes.l1] at h⟩
 | k + 1 => by
  obtain ⟨ih0, ih1⟩ := spec_VaBytes.mono_l k
  refine ⟨?_, ?_⟩
  ·intro y0 y1
   unfold spec_VaBytes.l0
   repeat' first
   | (with_reducible exact ih0 _ _)
   | (with_reducible exact ih1 _ _ _)
   | (with_reducible exact spec_natShort.mono _ _ _)
   | (with_reducible exact LeO.refl _)
   | (with_reducible exact LeO.none _)
   | (with_reducible refine LeO.ite ?_ ?_)
   | (with_reducible refine LeO.bind ?_ (fun _ => ?_))
   | exact ih0 _ _
   | exact ih1 _ _ _
   | exact spec_natShort.mono _ _ _
   | exact LeO.none _
   | refine LeO.ite ?_ ?_
   | refine LeO.bind ?_ (fun _ => ?_)
  ·intro y0 y1 y2
   unfold spec_VaBytes.l1
   repeat' first
   | (with_reducible exact ih0 _ _)
   | (with_reducible exact ih1 _ _ _)
   | (with_reducible exact spec_natShort.mono _ _ _)
   | (with_reducible exact LeO.refl _)
   | (with_reducible exact LeO.none _)
   | (with_reducible refine LeO.ite ?_ ?_)
   | (with_reducible refine LeO.bind ?_ (fun _ => ?_))
   | exact ih0 _ _
   | exact ih1 _ _ _
   | exact spec_natShort.mono _ _ _
   | exact LeO.none _
   | refine LeO.ite ?_ ?_
   | refine LeO.bind ?_ (fun _ => ?_)
theorem spec_VaBytes.mono : ∀ a0 k, LeO (spec_VaBytes.f k a0) (spec_VaBytes.f (k + 1) a0) := by
 intro a0 k
 obtain ⟨ih0, ih1⟩ := spec_VaBytes.mono_l k
 unfold spec_VaBytes.f
 repeat' first
   | (with_reducible exact ih0 _ _)
   | (with_reducible exact ih1 _ _ _)
   | (with_reducible exact spec_natShort.mono _ _ _)
   | (with_reducible exact LeO.refl _)
   | (with_reducible exact LeO.none _)
   | (with_reducible refine LeO.ite ?_ ?_)
   | (with_reducible refine LeO.bind ?_ (fun _ => ?_))
   | exact ih0 _ _
   | exact ih1 _ _ _
   | exact spec_natShort.mono _ _ _
   | exact LeO.none _
   | refine LeO.ite ?_ ?_
   | refine LeO.bind ?_ (fun _ => ?_)
def spec_VaBytes.T8 : Bool × List (List Nat × List Nat) := (true, [([], []), ([], []), ([], []), ([], []), ([], []), ([], []), ([4, 5], [4, 5]), ([6], [6]), ([], []), ([], []), ([8, 9], [8, 9]), ([10], [10]), ([0, 1, 0, 1, 4, 5, 6, 7, 11], [0, 1]), ([12, 7, 0, 1, 4, 5, 6, 7, 11], [7, 12]), ([2, 3, 0, 1, 2, 3, 4, 5, 6, 7, 8, 9, 10, 11, 12, 13], [2, 3]), ([14, 11, 13, 0, 1, 2, 3, 4, 5, 6, 7, 8, 9, 10, 11, 12, 13], [11, 14])])
def spec_VaBytes.B8 : List Nat := [0, 0, 0, 0, 0, 0, 48, 112, 0, 0, 768, 1792, 4083, 8179, 16383, 32767]
theorem spec_VaBytes.tab8 : rtab .any (opsOf Tryz.f29 8) = spec_VaBytes.T8 := by kernel_rfl
theorem spec_VaBytes.bits8 : waitsOk spec_VaBytes.T8.2 spec_VaBytes.B8 = true := by kernel_rfl
set_option maxHeartbeats 8000000 in
set_option maxRecDepth 100000 in
theorem spec_VaBytes.calls (k : Nat) (P0_ : Nat → Prop) (A0 : Option Addr) (c0 : Nat) (l0 : List Int) (r : List Int) (w : World) (hs0 : Kd.V (Kd.int .u32) 91 w w.heap.size (fun k_ => P0_ k_) (.slice A0 l0.length c0) l0) (h : spec_VaBytes.f k l0 = some r) :
  Calls Tryz.prog 29 #[.slice A0 l0.length c0] w fun e w' => ∃ v0_ : Value, e = .returned (v0_) ∧ Kd.R (Kd.int .u8) 5 w' w.heap.size (fun k_ => (w.heap.size ≤ k_)) v0_ r ∧ Below w.heap.size w w' := by
 have HO0 := Aside0.mk (show Kd.V (Kd.int .u32) 91 w w.heap.size (fun k_ => (P0_ k_ ∨ w.heap.size ≤ k_)) (.slice A0 l0.length c0) l0 from Kd.V_mono hs0 (fun k_ hk => .inl hk))
 have HB := Aside0.mk (Below.refl w.heap.size w)
 have H : (spec_VaBytes.l0 k l0 ([] : List Int)) = some r := h
 clear h
 have H' := Aside0.mk H
 clear H
 go_enter Tryz.func29, Tryz.ntmps29
 go_wp2
 go_loopg [0, 3] k (fun kq v0 v3 w' => ∃ (x0_1 : List Int) (x3_1 : List Int), Aside0 (spec_VaBytes.l0 kq x0_1 x3_1 = some r) ∧ Aside0 (kq ≤ k) ∧ Aside0 (Kd.V (Kd.int .u32) 91 w' w.heap.size (fun k_ => (P0_ k_ ∨ w.heap.size ≤ k_) ∧ some k_ ≠ (v3 : Value).ownBlock) v0 x0_1) ∧ Aside0 (Kd.R (Kd.int .u8) 5 w' w.heap.size (fun k_ => (w.heap.size ≤ k_)) v3 x3_1) ∧ Aside0 (Below w.heap.size w w'))
 case atStart => exact ⟨(l0), (([] : List Int)), H', ⟨Nat.le_refl _⟩, ⟨by (with_reducible repeat (first | apply Kd.V_alloc | apply Kd.V_drewN | apply Kd.V_drew)); exact Kd.V_mono HO0.out (fun _ hk => ⟨hk, (by simp [Value.ownBlock])⟩)⟩, ⟨by first | exact Kd.R_nil _ _ _ _ _ | exact Kd.N_nil _ _ _ _ _ | exact Kd.V_nil _ _ _ _ _ | exact Kd.Q_nil _ _ _ _ _ | exact Kd.S_nil _ _ _ _ _⟩, ⟨by repeat (first | (with_reducible first | exact HB.out | apply below_alloc | apply pw_below_drewN | apply below_drew1) | exact HB.out)⟩⟩
 case round =>
  clear H'
  obtain ⟨x0_1, x3_1, HA, HK1, HO_0, HO_3, HB⟩ := hrel
  cases gk with
  | zero => exact absurd HA.out (by simp [spec_VaBytes.l0])
  | succ k1 =>
   have H := HA.out
   clear HA
   simp only [spec_VaBytes.l0] at H
   by_cases c2 : (x0_1.length : Int) > 0
   ·rw [if_pos c2] at H
    have c2b0 : decide (0 < (x0_1.length : Int)) = true := decide_eq_true c2
    have c2b1 : decide (0 < x0_1.length) = true := decide_eq_true (by omega)
    clear c2
    replace H := Option.bind_eq_some_iff.mp H
    obtain ⟨⟨t200, t203⟩, A30, H⟩ := H
    replace H : (if x3_1.length < 140737488355328 then (spec_VaBytes.l0 k1 t200 (x3_1 ++ [(t203) % 256])) else (none)) = some r := H
    have A3 := Aside0.mk A30
    clear A30
    by_cases c4 : x3_1.length < 140737488355328
    ·rw [if_pos c4] at H
     have LMc4 := Aside0.mk c4
     clear c4
     obtain ⟨y204, hy204⟩ : ∃ y_ : List Int, y_ = (x3_1 ++ [(t203) % 256]) := ⟨_, rfl⟩
     replace H : (spec_VaBytes.l0 k1 t200 y204) = some r := by first | (rw [hy204]; with_reducible exact H) | (have H2_ := (Option.bind_some _ _).symm.trans H; rw [hy204]; with_reducible exact H2_) | (have H2_ := (Option.bind_some _ _).symm.trans H; with_reducible exact H2_) | with_reducible exact H | (rw [hy204]; exact H) | exact H
     have Ny204 := Aside0.mk hy204
     clear hy204
     have H' := Aside0.mk H
     clear H
     obtain ⟨Ao5, co5, eo5⟩ := Kd.V_slice HO_0.out
     subst eo5
     go_wp2_with (first | ((with_reducible refine gate_callee (f := 49) rfl ?_); refine goesL_ (some 13) rfl rfl Tryz.func49 (by kernel_rfl) rfl #[.slice Ao5 x0_1.length co5, .int .u32 256] rfl (by (try simp only [List.map_toArray, List.map_cons, List.map_nil]); first | done | rfl | (simp only [List.length_drop, List.length_take]; rfl)) ?_; (with_reducible refine (spec_natShort.calls k1 _ _ x0_1 256 t200 t203 _ ?side1 ?side2 A3.out).mono ?_); (case side1 => repeat (first | exact (Kd.V_reads' HO_0.out).2.2 | (with_reducible refine Kd.C_alloc ?_ _) | (with_reducible refine Kd.C_drewN ?_ _) | (with_reducible refine Kd.C_drew ?_))); (case side2 => exact (Kd.V_reads' HO_0.out).2.1); rintro e w6 ⟨v201, rfl, ho0, hb⟩; refine ⟨_, rfl, ?_⟩; have n0_ := Aside0.mk (Kd.V_below (by (with_reducible repeat (first | apply Kd.V_alloc | apply Kd.V_drewN | apply Kd.V_drew)); exact HO_0.out) hb); have n1_ := Aside0.mk (Kd.R_below (by (with_reducible repeat (first | apply Kd.R_alloc | apply Kd.R_drewN | apply Kd.R_drew)); exact HO_3.out) hb); have n2_ := Aside0.mk (Kd.V_lower (Kd.V_mono (ok' := fun k_ => (P0_ k_ ∨ w.heap.size ≤ k_) ∧ some k_ ≠ (u3 : Value).ownBlock) ho0 (fun k_ hk_ => ⟨(.inr (Nat.le_trans (below_size (by repeat (first | (with_reducible first | exact HB.out | apply below_alloc | apply pw_below_drewN | apply below_drew1) | exact HB.out))) hk_)), (Kd.fresh' (Kd.R_lt (by (with_reducible repeat (first | apply Kd.R_alloc | apply Kd.R_drewN | apply Kd.R_drew)); exact HO_3.out)) k_ hk_)⟩)) (below_size (by repeat (first | (with_reducible first | exact HB.out | apply below_alloc | apply pw_below_drewN | apply below_drew1) | exact HB.out)))); have n3_ := Aside0.mk (below_step (by repeat (first | (with_reducible first | exact HB.out | apply below_alloc | apply pw_below_drewN | apply below_drew1) | exact HB.out)) hb); clear HO_0; clear HO_3; clear HB; have HO_0 := n0_; have HO_3 := n1_; have HO202 := n2_; have HB := n3_; clear n0_ n1_ n2_ n3_; (try clear hb); (try clear hb2); (try clear hk); (try clear hi); (try clear ho0)) | ((with_reducible refine gate_builtin (b := .append) (xs := #[.tmp 16, .tmp 19]) rfl ?_); at_builtin; refine Kd.R_append (Kd.int .u8) (w0 := w) w.heap.size rfl (.tmp 16) (.tmp 19) 22 5 (.int .u8 0) 1 rfl Tryz.underlying22 info5 rfl (by decide) (by omega) u3 x3_1 ((t203) % 256) [.int .u8 ((t203) % 256)] (fun k_ => (w.heap.size ≤ k_)) (fun _ => False) rfl rfl ?aP (fun _ hk => hk.elim) ?aF ?aO ?aB ?aS ?aL ?_; (case aP => exact rfl); (case aB => exact (by repeat (first | (with_reducible first | exact HB.out | apply below_alloc | apply pw_below_drewN | apply below_drew1) | exact HB.out))); (case aF => exact (fun k_ hk => (Nat.le_trans (below_size (by repeat (first | (with_reducible first | exact HB.out | apply below_alloc | apply pw_below_drewN | apply below_drew1) | exact HB.out))) hk))); (case aO => exact (by (with_reducible repeat (first | apply Kd.R_alloc | apply Kd.R_drewN | apply Kd.R_drew)); exact HO_3.out)); (case aS => exact (below_size (by repeat (first | (with_reducible first | exact HB.out | apply below_alloc | apply pw_below_drewN | apply below_drew1) | exact HB.out)))); (case aL => have := LMc4.out; omega); intro v205 w7 ho hb hg hat; rw [← Ny204.out] at ho; have n0_ := Aside0.mk (Kd.V_afterv (ok := (fun k_ => (P0_ k_ ∨ w.heap.size ≤ k_))) (by (with_reducible repeat (first | apply Kd.V_alloc | apply Kd.V_drewN | apply Kd.V_drew)); exact HO_0.out) hg hat); have n1_ := Aside0.mk (Kd.V_afterv (ok := (fun k_ => (P0_ k_ ∨ w.heap.size ≤ k_))) (by (with_reducible repeat (first | apply Kd.V_alloc | apply Kd.V_drewN | apply Kd.V_drew)); exact HO202.out) hg hat); have n2_ := Aside0.mk (hb); have n3_ := Aside0.mk (ho); clear HO_0; clear HO202; clear HB; clear HO_3; have HO_0 := n0_; have HO202 := n1_; have HB := n2_; have HO206 := n3_; clear n0_ n1_ n2_ n3_; clear ho hb hg hat))
     go_roundg k1
     case measure => have := HK1.out; omega
     case rel => exact ⟨(t200), (y204), H', ⟨by have := HK1.out; omega⟩, ⟨by (with_reducible repeat (first | apply Kd.V_alloc | apply Kd.V_drewN | apply Kd.V_drew)); exact HO202.out⟩, ⟨by (with_reducible repeat (first | apply Kd.R_alloc | apply Kd.R_drewN | apply Kd.R_drew)); exact HO206.out⟩, ⟨by repeat (first | (with_reducible first | exact HB.out | apply below_alloc | apply pw_below_drewN | apply below_drew1) | exact HB.out)⟩⟩
    ·rw [if_neg c4] at H
     exact absurd H (by simp)
   ·rw [if_neg c2] at H
    have c2b0 : decide (0 < (x0_1.length : Int)) = false := decide_eq_false c2
    have c2b1 : decide (0 < x0_1.length) = false := decide_eq_false (by omega)
    clear c2
    have H' := Aside0.mk H
    clear H
    obtain ⟨Ao8, co8, eo8⟩ := Kd.V_slice HO_0.out
    subst eo8
    obtain ⟨Ao9, co9, eo9⟩ := Kd.R_slice HO_3.out
    subst eo9
    go_wp2
    go_loopg [6, 7] k1 (fun kq v6 v7 w' => ∃ (x3_2 : List Int) (x6_2 : Int) (x7_2 : Int), v6 = .int .i64 x6_2 ∧ v7 = .int .i64 x7_2 ∧ Aside0 (spec_VaBytes.l1 kq x3_2 x6_2 x7_2 = some r) ∧ Aside0 (kq ≤ k1) ∧ Aside0 (Kd.R (Kd.int .u8) 5 w' w.heap.size (fun k_ => (w.heap.size ≤ k_)) (.slice Ao9 x3_1.length co9) x3_2) ∧ Aside0 (Below w.heap.size w w'))
    case atStart => exact ⟨(x3_1), (0), (wrap64 ((x3_1.length : Int) - 1)), (by first | rfl | (simp; done) | (simp [*]; done)), (by first | rfl | (simp; done) | (simp [*]; done)), H', ⟨Nat.le_refl _⟩, ⟨by (with_reducible repeat (first | apply Kd.R_alloc | apply Kd.R_drewN | apply Kd.R_drew)); exact HO_3.out⟩, ⟨by repeat (first | (with_reducible first | exact HB.out | apply below_alloc | apply pw_below_drewN | apply below_drew1) | exact HB.out)⟩⟩
    case round =>
     clear H'
     try clear c2
     try clear c2b0
     try clear c2b1
     try clear p2
     try clear c4
     try clear p6
     obtain ⟨x3_2, x6_2, x7_2, rfl, rfl, HA, HK2, HO_3, HB⟩ := hrel
     have hl3_2 := (Kd.R_reads' HO_3.out).1
     rw [hl3_2] at HO_3
     (try simp only [hl3_2])
     cases gk with
     | zero => exact absurd HA.out (by simp [spec_VaBytes.l1])
     | succ k2 =>
      have H := HA.out
      clear HA
      simp only [spec_VaBytes.l1] at H
      by_cases c10 : x6_2 < x7_2
      ·rw [if_pos c10] at H
       have c10b0 : decide (x6_2 < x7_2) = true := decide_eq_true c10
       clear c10
       by_cases c11 : 0 ≤ x7_2
       ·rw [if_pos c11] at H
        have c11b0 : decide (0 ≤ x7_2) = true := decide_eq_true c11
        clear c11
        by_cases c12 : x7_2 < (x3_2.length : Int)
        ·rw [if_pos c12] at H
         have c12b0 : decide (x7_2 < (x3_2.length : Int)) = true := decide_eq_true c12
         clear c12
         by_cases c13 : 0 ≤ x6_2
         ·rw [if_pos c13] at H
          have c13b0 : decide (0 ≤ x6_2) = true := decide_eq_true c13
          clear c13
          by_cases c14 : x6_2 < (x3_2.length : Int)
          ·rw [if_pos c14] at H
           have c14b0 : decide (x6_2 < (x3_2.length : Int)) = true := decide_eq_true c14
           clear c14
           obtain ⟨y209, hy209⟩ : ∃ y_ : List Int, y_ = (x3_2.set (x6_2 : Int).toNat (rd x3_2 x7_2)) := ⟨_, rfl⟩
           replace H : (spec_VaBytes.l1 k2 (y209.set (x7_2 : Int).toNat (rd x3_2 x6_2)) (wrap64 (x6_2 + 1)) (wrap64 (x7_2 - 1))) = some r := by first | (rw [hy209]; with_reducible exact H) | (have H2_ := (Option.bind_some _ _).symm.trans H; rw [hy209]; with_reducible exact H2_) | (have H2_ := (Option.bind_some _ _).symm.trans H; with_reducible exact H2_) | with_reducible exact H | (rw [hy209]; exact H) | exact H
           have Ny209 := Aside0.mk hy209
           clear hy209
           obtain ⟨y210, hy210⟩ : ∃ y_ : List Int, y_ = (y209.set (x7_2 : Int).toNat (rd x3_2 x6_2)) := ⟨_, rfl⟩
           replace H : (spec_VaBytes.l1 k2 y210 (wrap64 (x6_2 + 1)) (wrap64 (x7_2 - 1))) = some r := by first | (rw [hy210]; with_reducible exact H) | (have H2_ := (Option.bind_some _ _).symm.trans H; rw [hy210]; with_reducible exact H2_) | (have H2_ := (Option.bind_some _ _).symm.trans H; with_reducible exact H2_) | with_reducible exact H | (rw [hy210]; exact H) | exact H
           have Ny210 := Aside0.mk hy210
           clear hy210
           have H' := Aside0.mk H
           clear H
           try go_wp2
           have n0_ := Aside0.mk (Kd.R_drew HO_3.out)
           have n1_ := Aside0.mk (below_drew1 HB.out)
           clear HO_3
           clear HB
           have HO_3 := n0_
           have HB := n1_
           clear n0_ n1_
           have p207 : 0 ≤ (x7_2 : Int) := of_decide_eq_true (by first | (with_reducible assumption) | assumption)
           have q207 : x7_2 < (x3_2.length : Int) := of_decide_eq_true (by first | (with_reducible assumption) | assumption)
           obtain ⟨ad207, e207, hx207_0⟩ := Kd.at_int (Kd.R_reads' HO_3.out).2.2 x7_2 p207 q207
           cases e207
           replace p207 := eq_true p207
           replace q207 := eq_true q207
           have p208 : 0 ≤ (x6_2 : Int) := of_decide_eq_true (by first | (with_reducible assumption) | assumption)
           have q208 : x6_2 < (x3_2.length : Int) := of_decide_eq_true (by first | (with_reducible assumption) | assumption)
           obtain ⟨ad208, e208, hx208_0⟩ := Kd.at_int (Kd.R_reads' HO_3.out).2.2 x6_2 p208 q208
           obtain rfl : ad207 = ad208 := (by injection e208)
           replace p208 := eq_true p208
           replace q208 := eq_true q208
           have p15 : 0 ≤ (x6_2 : Int) := of_decide_eq_true (by first | (with_reducible assumption) | assumption)
           have q15 : (x6_2 : Int) < ((x3_2.length : Int) : Int) := of_decide_eq_true (by first | (with_reducible assumption) | assumption)
           obtain ⟨go15, co15, eo15, gb15, gl15, cl15, HG15⟩ := Kd.R_form HO_3.out (by omega)
           (first | cases eo15 | (injection eo15 with ea_ en_ ec_; (first | subst ea_ | (injection ea_ with ea_; subst ea_)); subst ec_; clear en_))
           have GB15 := Aside0.mk gb15
           have GG15 := Aside0.mk HG15
           clear gb15 gl15 HG15
           (first | simp only [add_plain] at hx207_0 | skip)
           (first | simp only [add_plain] at hx208_0 | skip)
           obtain ⟨hx15_0, hf15_0⟩ := Kd.R_celln 0 HO_3.out (x6_2 : Int) p15 q15
           replace p15 := eq_true p15
           replace q15 := eq_true q15
           have HP18 := Kd.R_putn HO_3.out (x6_2 : Int) (rd x3_2 x7_2)
           rw [← Ny209.out] at HP18
           have HQ18 := Aside0.mk HP18
           clear HP18
           have p16 : 0 ≤ (x7_2 : Int) := of_decide_eq_true (by first | (with_reducible assumption) | assumption)
           have q16 : (x7_2 : Int) < ((x3_2.length : Int) : Int) := of_decide_eq_true (by first | (with_reducible assumption) | assumption)
           obtain ⟨hx16_0, hf16_0⟩ := Kd.R_celln 0 HQ18.out (x7_2 : Int) p16 q16
           replace p16 := eq_true p16
           replace q16 := eq_true q16
           have HP19 := Kd.R_putn HQ18.out (x7_2 : Int) (rd x3_2 x6_2)
           rw [← Ny210.out] at HP19
           have HQ19 := Aside0.mk HP19
           clear HP19
           refine start_ (n := 16) (S := fun w' => w'.cell? ⟨go15, (x7_2).toNat, none⟩ = some (.int .u8 (rd x3_2 x7_2)) ∧ w'.cell? ⟨go15, (x6_2).toNat, none⟩ = some (.int .u8 (rd x3_2 x6_2))) (ds := [13, 15]) z174 (by kernel_rfl) rfl rfl ⟨hx207_0, hx208_0⟩ (fun hHeld => ?_); refine with_tabW spec_VaBytes.tab8 spec_VaBytes.bits8 (fun HT_ HW_ => ?_)
           generalize wr.drew = w17 at HO_3 HB GG15 HQ18 HQ19 hf15_0 hf16_0 hx15_0 hx16_0 hx207_0 hx208_0 hHeld ⊢
           refine pure_ (i := 0) (N := some 32) (v := ?_) (a' := ?_) z175 rfl rfl (any_of HT_.out (by kernel_rfl)) (fun _ _ _ h => h) (Or.inl ⟨by rfl, ?_⟩) ?_ ?_
           rotate_left
           ·intro w'
            go_simp
            with_reducible rfl
           rotate_left
           ·simp only [Act.put, sA, sB, sC, i64_w, i32_w]
            rfl
           refine pure_ (i := 1) (N := some 33) (v := ?_) (a' := ?_) z176 rfl rfl (any_of HT_.out (by kernel_rfl)) (fun _ _ _ h => h) (Or.inl ⟨by rfl, ?_⟩) ?_ ?_
           rotate_left
           ·intro w'
            go_simp
            with_reducible rfl
           rotate_left
           ·simp only [Act.put, sA, sB, sC, i64_w, i32_w]
            rfl
           refine pure_ (i := 2) (N := some 34) (v := ?_) (a' := ?_) z177 rfl rfl (any_of HT_.out (by kernel_rfl)) (fun _ _ _ h => h) (Or.inl ⟨by rfl, ?_⟩) ?_ ?_
           rotate_left
           ·intro w'
            go_simp
            with_reducible rfl
           rotate_left
           ·simp only [Act.put, sA, sB, sC, i64_w, i32_w]
            rfl
           refine pure_ (i := 3) (N := some 35) (v := ?_) (a' := ?_) z178 rfl rfl (any_of HT_.out (by kernel_rfl)) (fun _ _ _ h => h) (Or.inl ⟨by rfl, ?_⟩) ?_ ?_
           rotate_left
           ·intro w'
            go_simp
            with_reducible rfl
           rotate_left
           ·simp only [Act.put, sA, sB, sC, i64_w, i32_w]
            rfl
           refine pure_ (i := 4) (N := some 36) (v := ?_) (a' := ?_) z179 rfl rfl (any_of HT_.out (by kernel_rfl)) (fun _ _ _ h => h) (Or.inl ⟨by rfl, ?_⟩) ?_ ?_
           rotate_left
           ·intro w'
            go_simp
            with_reducible rfl
           rotate_left
           ·simp only [Act.put, sA, sB, sC, i64_w, i32_w]
            rfl
           refine pure_ (i := 5) (N := some 37) (v := ?_) (a' := ?_) z180 rfl rfl (any_of HT_.out (by kernel_rfl)) (fun _ _ _ h => h) (Or.inl ⟨by rfl, ?_⟩) ?_ ?_
           rotate_left
           ·intro w'
            go_simp
            with_reducible rfl
           rotate_left
           ·simp only [Act.put, sA, sB, sC, i64_w, i32_w]
            rfl
           refine pure_ (i := 6) (N := some 38) (v := ?_) (a' := ?_) z181 rfl rfl (any_of HT_.out (by kernel_rfl)) (fun _ _ _ h => h) (Or.inl ⟨by rfl, ?_⟩) ?_ ?_
           rotate_left
           ·intro w'
            go_simp
            with_reducible rfl
           rotate_left
           ·simp only [Act.put, sA, sB, sC, i64_w, i32_w]
            rfl
           refine pure_ (i := 8) (N := some 40) (v := ?_) (a' := ?_) z182 rfl rfl (any_of HT_.out (by kernel_rfl)) (fun _ _ _ h => h) (Or.inl ⟨by rfl, ?_⟩) ?_ ?_
           rotate_left
           ·intro w'
            go_simp
            with_reducible rfl
           rotate_left
           ·simp only [Act.put, sA, sB, sC, i64_w, i32_w]
            rfl
           refine pure_ (i := 9) (N := some 41) (v := ?_) (a' := ?_) z183 rfl rfl (any_of HT_.out (by kernel_rfl)) (fun _ _ _ h => h) (Or.inl ⟨by rfl, ?_⟩) ?_ ?_
           rotate_left
           ·intro w'
            go_simp
            with_reducible rfl
           rotate_left
           ·simp only [Act.put, sA, sB, sC, i64_w, i32_w]
            rfl
           refine pure_ (i := 10) (N := some 42) (v := ?_) (a' := ?_) z184 rfl rfl (any_of HT_.out (by kernel_rfl)) (fun _ _ _ h => h) (Or.inl ⟨by rfl, ?_⟩) ?_ ?_
           rotate_left
           ·intro w'
            go_simp
            with_reducible rfl
           rotate_left
           ·simp only [Act.put, sA, sB, sC, i64_w, i32_w]
            rfl
           refine take_ (i := 7) (N := some 39) (v := ?_) (a' := ?_) z185 rfl rfl (take_ofW HT_.out HW_.out (by kernel_rfl)) (fun _ _ _ h => h) (Or.inl ⟨by rfl, ?_⟩) hHeld ?_ ?_
           rotate_left
           ·rintro w' ⟨s0, s1⟩
            go_simp
            with_reducible rfl
           rotate_left
           ·simp only [Act.put, sA, sB, sC, i64_w, i32_w]
            rfl
           refine take_ (i := 11) (N := some 43) (v := ?_) (a' := ?_) z186 rfl rfl (take_ofW HT_.out HW_.out (by kernel_rfl)) (fun _ _ _ h => h) (Or.inl ⟨by rfl, ?_⟩) hHeld ?_ ?_
           rotate_left
           ·rintro w' ⟨s0, s1⟩
            go_simp
            with_reducible rfl
           rotate_left
           ·simp only [Act.put, sA, sB, sC, i64_w, i32_w]
            rfl
           refine pure_ (i := 12) (N := some 44) (v := ?_) (a' := ?_) z187 rfl rfl (any_of HT_.out (by kernel_rfl)) (fun _ _ _ h => h) (Or.inl ⟨by rfl, ?_⟩) ?_ ?_
           rotate_left
           ·intro w'
            go_simp
            with_reducible rfl
           rotate_left
           ·simp only [Act.put, sA, sB, sC, i64_w, i32_w]
            rfl
           refine last_ (i := 13) (N := none) z188 rfl rfl (one_of HT_.out (by kernel_rfl)) (by decide) (fun K hK => ?_)
           refine skip_ (w1 := ?_) (by rfl) rfl ?_ ?_
           rotate_left
           ·go_simp
            rfl
           refine hK.out _ _ ?_
           clear hK K
           refine pure_ (i := 14) (N := some 45) (v := ?_) (a' := ?_) z189 rfl rfl (any_of HT_.out (by kernel_rfl)) (fun _ _ _ h => h) (Or.inl ⟨by rfl, ?_⟩) ?_ ?_
           rotate_left
           ·intro w'
            go_simp
            with_reducible rfl
           rotate_left
           ·simp only [Act.put, sA, sB, sC, i64_w, i32_w]
            rfl
           refine last_ (i := 15) (N := none) z190 rfl rfl (one_of HT_.out (by kernel_rfl)) (by decide) (fun K hK => ?_)
           refine skip_ (w1 := ?_) (by rfl) rfl ?_ ?_
           rotate_left
           ·go_simp
            rfl
           refine hK.out _ _ ?_
           clear hK K
           refine done_ (done_of HT_.out (by kernel_rfl)) ?_
           try go_wp2
           (try simp only [← hl3_2])
           go_roundg k2
           case measure => have := HK1.out; have := HK2.out; omega
           case rel => exact ⟨(y210), (wrap64 (x6_2 + 1)), (wrap64 (x7_2 - 1)), (by first | rfl | (simp; done) | (simp [*]; done)), (by first | rfl | (simp; done) | (simp [*]; done)), H', ⟨by have := HK1.out; have := HK2.out; omega⟩, ⟨by (try simp only [hl3_2]); (with_reducible repeat (first | apply Kd.R_alloc | apply Kd.R_drewN | apply Kd.R_drew)); exact HQ19.out⟩, ⟨by repeat (first | (with_reducible first | exact HB.out | apply below_alloc | apply pw_below_drewN | apply below_drew1 | refine below_set ?_ GB15.out | refine below_set ?_ GB15.out) | exact HB.out)⟩⟩
          ·rw [if_neg c14] at H
           exact absurd H (by simp)
         ·rw [if_neg c13] at H
          exact absurd H (by simp)
        ·rw [if_neg c12] at H
         exact absurd H (by simp)
       ·rw [if_neg c11] at H
        exact absurd H (by simp)
      ·rw [if_neg c10] at H
       have c10b0 : decide (x6_2 < x7_2) = false := decide_eq_false c10
       clear c10
       obtain rfl := Option.some.inj H
       go_wp2
       go_ret
       exact ⟨_, by first | rfl | (simp [errW_none, errW_some] <;> rfl) | (simp [*, errW_none, errW_some] <;> rfl), by (with_reducible repeat (first | apply Kd.R_alloc | apply Kd.R_drewN | apply Kd.R_drew)); exact HO_3.out, by repeat (first | (with_reducible first | exact HB.out | apply below_alloc | apply pw_below_drewN | apply below_drew1) | exact HB.out)⟩
def spec_vaLittle.l0 : Nat → List Int → Int → List Int → List Int → Int → Int → Option (List Int)
 | 0, _, _, _, _, _, _ => none
 | k + 1, x0, x1, x5, x12, x13, x14 => if x14 < x13 then (if 0 ≤ x14 then (if x14 < (x12.length : Int) then ((spec_VaBytes.f k x0).bind fun t218 => (if (wrap64 ((wrap64 ((t218.length : Int) - 1)) - x14)) < x1 then (if 0 ≤ (wrap64 ((wrap64 ((t218.length : Int) - 1)) - x14)) then (if (wrap64 ((wrap64 ((t218.length : Int) - 1)) - x14)) < (x5.length : Int) then (spec_vaLittle.l0 k x0 x1 (x5.set ((wrap64 ((wrap64 ((t218.length : Int) - 1)) - x14)) : Int).toNat (rd x12 x14)) x12 x13 (wrap64 (x14 + 1))) else (none)) else (none)) else (spec_vaLittle.l0 k x0 x1 x5 x12 x13 (wrap64 (x14 + 1))))) else (none)) else (none)) else (some x5)
def spec_vaLittle.f (k : Nat) (l0 : List Int) (a1 : Int) : Option (List Int) := if 0 ≤ a1 then (if (a1 : Int).toNat ≤ 281474976710656 then ((spec_VaBytes.f k l0).bind fun t214 => (spec_vaLittle.l0 k l0 a1 (List.replicate (a1 : Int).toNat 0) t214 (t214.length : Int) 0)) else (none)) else (none)
theorem spec_vaLittle.mono_l : ∀ k, (∀ y0 y1 y2 y3 y4 y5, LeO (spec_vaLittle.l0 k y0 y1 y2 y3 y4 y5) (spec_vaLittle.l0 (k + 1) y0 y1 y2 y3 y4 y5))
 | 0 => fun _ _ _ _ _ _ r h => by simp [spec_vaLittle.l0] at h
 | k + 1 => by
  have ih0 := spec_vaLittle.mono_l k
  ·intro y0 y1 y2 y3 y4 y5
   unfold spec_vaLittle.l0
   repeat' first
   | (with_reducible exact ih0 _ _ _ _ _ _)
   | (with_reducible exact spec_VaBytes.mono _ _)
   | (with_reducible exact LeO.refl _)
   | (with_reducible exact LeO.none _)
   | (with_reducible refine LeO.ite ?_ ?_)
   | (with_reducible refine LeO.bind ?_ (fun _ => ?_))
   | exact ih0 _ _ _ _ _ _
   | exact spec_VaBytes.mono _ _
   | exact LeO.none _
   | refine LeO.ite ?_ ?_
   | refine LeO.bind ?_ (fun _ => ?_)
theorem spec_vaLittle.mono : ∀ a0 a1 k, LeO (spec_vaLittle.f k a0 a1) (spec_vaLittle.f (k + 1) a0 a1) := by
 intro a0 a1 k
 have ih0 := spec_vaLittle.mono_l k
 unfold spec_vaLittle.f
 repeat' first
   | (with_reducible exact ih0 _ _ _ _ _ _)
   | (with_reducible exact spec_VaBytes.mono _ _)
   | (with_reducible exact LeO.refl _)
   | (with_reducible exact LeO.none _)
   | (with_reducible refine LeO.ite ?_ ?_)
   | (with_reducible refine LeO.bind ?_ (fun _ => ?_))
   | exact ih0 _ _ _ _ _ _
   | exact spec_VaBytes.mono _ _
   | exact LeO.none _
   | refine LeO.ite ?_ ?_
   | refine LeO.bind ?_ (fun _ => ?_)
set_option maxHeartbeats 8000000 in
set_option maxRecDepth 100000 in
theorem spec_vaLittle.calls (k : Nat) (A0 : Option Addr) (c0 : Nat) (l0 : List Int) (a1 : Int) (r : List Int) (w : World) (hr0 : Kd.C (Kd.int .u32) w A0 l0.length l0) (hc0 : l0.length ≤ c0) (h : spec_vaLittle.f k l0 a1 = some r) :
  Calls Tryz.prog 18 #[.slice A0 l0.length c0, .int .i64 a1] w fun e w' => ∃ v0_ : Value, e = .returned (v0_) ∧ Kd.R (Kd.int .u8) 5 w' w.heap.size (fun _ => True) v0_ r ∧ Below w.heap.size w w' := by
 have HR0 := Aside0.mk hr0
 have HC0 := Aside0.mk hc0
 clear hr0 hc0
 have HB := Aside0.mk (Below.refl w.heap.size w)
 have H : (if 0 ≤ a1 then (if (a1 : Int).toNat ≤ 281474976710656 then ((spec_VaBytes.f k l0).bind fun t214 => (spec_vaLittle.l0 k l0 a1 (List.replicate (a1 : Int).toNat 0) t214 (t214.length : Int) 0)) else (none)) else (none)) = some r := h
 clear h
 by_cases c3 : 0 ≤ a1
 ·rw [if_pos c3] at H
  have c3b0 := eq_true c3
  have c3b1 : decide (0 ≤ a1) = true := decide_eq_true c3
  clear c3
  by_cases c4 : (a1 : Int).toNat ≤ 281474976710656
  ·rw [if_pos c4] at H
   have c4b0 := eq_true c4
   have c4b1 : decide ((a1 : Int).toNat ≤ 281474976710656) = true := decide_eq_true c4
   clear c4
   obtain ⟨y211, hy211⟩ : ∃ y_ : List Int, y_ = (List.replicate (a1 : Int).toNat 0) := ⟨_, rfl⟩
   replace H : ((spec_VaBytes.f k l0).bind fun t214 => (spec_vaLittle.l0 k l0 a1 y211 t214 (t214.length : Int) 0)) = some r := by first | (rw [hy211]; with_reducible exact H) | (have H2_ := (Option.bind_some _ _).symm.trans H; rw [hy211]; with_reducible exact H2_) | (have H2_ := (Option.bind_some _ _).symm.trans H; with_reducible exact H2_) | with_reducible exact H | (rw [hy211]; exact H) | exact H
   have Ny211 := Aside0.mk hy211
   clear hy211
   replace H := Option.bind_eq_some_iff.mp H
   obtain ⟨t214, A50, H⟩ := H
   replace H : (spec_vaLittle.l0 k l0 a1 y211 t214 (t214.length : Int) 0) = some r := H
   have A5 := Aside0.mk A50
   clear A50
   have H' := Aside0.mk H
   clear H
   go_enter Tryz.func18, Tryz.ntmps18
   go_wp2_with (first | ((with_reducible refine gate_dst (N := 10) rfl ?_); refine Kd.R_make (Kd.int .u8) _ 5 rfl (N := 10) rfl 22 _ _ rfl a1 rfl rfl Tryz.underlying22 (.int .u8 0) 1 info5 rfl (by decide) (by omega) 0 (ok := fun _ => True) (okp := fun _ => True) rfl (fun _ hk => hk) trivial (of_decide_eq_true (by first | (with_reducible assumption) | assumption)) (Nat.le_trans (Nat.mul_le_mul_right _ (of_decide_eq_true (by first | (with_reducible assumption) | assumption) : a1.toNat ≤ 281474976710656)) (by omega)) (Below.refl _ _) (Nat.le_refl _) ?_; intro v212 w6 ho7 hb hg_ hnew_; clear hg_ hnew_; (first | rw [← Ny211.out] at ho7 | (simp only [Int.reduceToNat] at ho7; rw [← Ny211.out] at ho7)); have n0_ := Aside0.mk (Kd.R_lower ho7 (below_size (by repeat (first | (with_reducible first | exact HB.out | apply below_alloc | apply pw_below_drewN | apply below_drew1) | exact HB.out)))); have n1_ := Aside0.mk (below_step (by repeat (first | (with_reducible first | exact HB.out | apply below_alloc | apply pw_below_drewN | apply below_drew1) | exact HB.out)) hb); clear HB; have HO213 := n0_; have HB := n1_; clear n0_ n1_; clear hb ho7) | ((with_reducible refine gate_callee (f := 29) rfl ?_); refine goesL_ (some 12) rfl rfl Tryz.func29 (by kernel_rfl) rfl #[.slice A0 l0.length c0] rfl (by (try simp only [List.map_toArray, List.map_cons, List.map_nil]); first | done | rfl | (simp only [List.length_drop, List.length_take]; rfl)) ?_; (with_reducible refine (spec_VaBytes.calls k (fun k_ => k_ < w.heap.size) _ _ l0 t214 _ ?side1 A5.out).mono ?_); (case side1 => exact Kd.V_mk HC0.out (Kd.F_below (Kd.C_F (Kd.heap_int .u32) HR0.out) (by repeat (first | (with_reducible first | exact HB.out | apply below_alloc | apply pw_below_drewN | apply below_drew1) | exact HB.out)))); rintro e w8 ⟨v215, rfl, ho0, hb⟩; refine ⟨_, rfl, ?_⟩; have n0_ := Aside0.mk (Kd.R_elder' (by (with_reducible repeat (first | apply Kd.R_alloc | apply Kd.R_drewN | apply Kd.R_drew)); exact HO213.out) (Kd.R_base ho0) hb); have n1_ := Aside0.mk (Kd.R_lower (Kd.R_new' (Kd.R_mono (ok' := fun k_ => True) ho0 (fun _ hk_ => trivial)) (Kd.R_lt (by (with_reducible repeat (first | apply Kd.R_alloc | apply Kd.R_drewN | apply Kd.R_drew)); exact HO213.out))) (below_size (by repeat (first | (with_reducible first | exact HB.out | apply below_alloc | apply pw_below_drewN | apply below_drew1) | exact HB.out)))); have n2_ := Aside0.mk (below_step (by repeat (first | (with_reducible first | exact HB.out | apply below_alloc | apply pw_below_drewN | apply below_drew1) | exact HB.out)) hb); clear HO213; clear HB; have HO213 := n0_; have HO216 := n1_; have HB := n2_; clear n0_ n1_ n2_; (try clear hb); (try clear hb2); (try clear hk); (try clear hi); (try clear ho0); obtain ⟨Ao9, co9, eo9⟩ := Kd.R_slice HO216.out; subst eo9))
   go_loopg [14] k (fun kq v14 w' => ∃ (x5_1 : List Int) (x14_1 : Int), v14 = .int .i64 x14_1 ∧ Aside0 (spec_vaLittle.l0 kq l0 a1 x5_1 t214 (t214.length : Int) x14_1 = some r) ∧ Aside0 (kq ≤ k) ∧ Aside0 (Kd.R (Kd.int .u8) 5 w' w.heap.size (fun k_ => some k_ ≠ ((.slice Ao9 t214.length co9) : Value).ownBlock) v212 x5_1) ∧ Aside0 (Kd.R (Kd.int .u8) 5 w' w.heap.size (fun k_ => some k_ ≠ (v212 : Value).ownBlock) (.slice Ao9 t214.length co9) t214) ∧ Aside0 (Below w.heap.size w w'))
   case atStart => exact ⟨(y211), (0), (by first | rfl | (simp; done) | (simp [*]; done)), H', ⟨Nat.le_refl _⟩, ⟨by (with_reducible repeat (first | apply Kd.R_alloc | apply Kd.R_drewN | apply Kd.R_drew)); exact Kd.R_mono HO213.out (fun _ hk => hk.2)⟩, ⟨by (with_reducible repeat (first | apply Kd.R_alloc | apply Kd.R_drewN | apply Kd.R_drew)); exact Kd.R_mono HO216.out (fun _ hk => hk.2)⟩, ⟨by repeat (first | (with_reducible first | exact HB.out | apply below_alloc | apply pw_below_drewN | apply below_drew1) | exact HB.out)⟩⟩
   case round =>
    clear H'
    try clear c1
    try clear c2
    try clear p2
    try clear c3
    try clear c3b0
    try clear c3b1
    try clear c4
    try clear c4b0
    try clear c4b1
    obtain ⟨x5_1, x14_1, rfl, HA, HK1, HO_5, HO_12, HB⟩ := hrel
    cases gk with
    | zero => exact absurd HA.out (by simp [spec_vaLittle.l0])
    | succ k1 =>
     have H := HA.out
     clear HA
     simp only [spec_vaLittle.l0] at H
     by_cases c10 : x14_1 < (t214.length : Int)
     ·rw [if_pos c10] at H
      have c10b0 : decide (x14_1 < (t214.length : Int)) = true := decide_eq_true c10
      clear c10
      by_cases c11 : 0 ≤ x14_1
      ·rw [if_pos c11] at H
       have c11b0 : decide (0 ≤ x14_1) = true := decide_eq_true c11
       clear c11
       by_cases c12 : x14_1 < (t214.length : Int)
       ·rw [if_pos c12] at H
        have c12b0 : decide (x14_1 < (t214.length : Int)) = true := decide_eq_true c12
        clear c12
        replace H := Option.bind_eq_some_iff.mp H
        obtain ⟨t218, A130, H⟩ := H
        replace H : (if (wrap64 ((wrap64 ((t218.length : Int) - 1)) - x14_1)) < a1 then (if 0 ≤ (wrap64 ((wrap64 ((t218.length : Int) - 1)) - x14_1)) then (if (wrap64 ((wrap64 ((t218.length : Int) - 1)) - x14_1)) < (x5_1.length : Int) then (spec_vaLittle.l0 k1 l0 a1 (x5_1.set ((wrap64 ((wrap64 ((t218.length : Int) - 1)) - x14_1)) : Int).toNat (rd t214 x14_1)) t214 (t214.length : Int) (wrap64 (x14_1 + 1))) else (none)) else (none)) else (spec_vaLittle.l0 k1 l0 a1 x5_1 t214 (t214.length : Int) (wrap64 (x14_1 + 1)))) = some r := H
        have A13 := Aside0.mk A130
        clear A130
        by_cases c14 : (wrap64 ((wrap64 ((t218.length : Int) - 1)) - x14_1)) < a1
        ·rw [if_pos c14] at H
         have c14b0 : decide ((wrap64 ((wrap64 ((t218.length : Int) - 1)) - x14_1)) < a1) = true := decide_eq_true c14
         clear c14
         obtain ⟨ji15, hji15⟩ : ∃ j_ : Int, (wrap64 ((wrap64 ((t218.length : Int) - 1)) - x14_1)) = j_ := ⟨_, rfl⟩
         replace H : (if 0 ≤ (ji15) then (if (ji15) < (x5_1.length : Int) then (spec_vaLittle.l0 k1 l0 a1 (x5_1.set ((ji15) : Int).toNat (rd t214 x14_1)) t214 (t214.length : Int) (wrap64 (x14_1 + 1))) else (none)) else (none)) = some r := by first | (rw [hji15] at H; exact H) | (simp only [hji15] at H ⊢; exact H)
         (try rw [hji15] at c14b0)
         (try rw [hji15] at A13)
         have hji15w : (IntKind.i64.wrap ((wrap64 ((t218.length : Int) - 1)) - x14_1)) = ji15 := (i64_w _).trans hji15
         by_cases c16 : 0 ≤ (ji15)
         ·rw [if_pos c16] at H
          have c16b0 : decide (0 ≤ (ji15)) = true := decide_eq_true c16
          clear c16
          by_cases c17 : (ji15) < (x5_1.length : Int)
          ·rw [if_pos c17] at H
           have c17b0 : decide ((ji15) < (x5_1.length : Int)) = true := decide_eq_true c17
           clear c17
           obtain ⟨y221, hy221⟩ : ∃ y_ : List Int, y_ = (x5_1.set ((ji15) : Int).toNat (rd t214 x14_1)) := ⟨_, rfl⟩
           replace H : (spec_vaLittle.l0 k1 l0 a1 y221 t214 (t214.length : Int) (wrap64 (x14_1 + 1))) = some r := by first | (rw [hy221]; with_reducible exact H) | (have H2_ := (Option.bind_some _ _).symm.trans H; rw [hy221]; with_reducible exact H2_) | (have H2_ := (Option.bind_some _ _).symm.trans H; with_reducible exact H2_) | with_reducible exact H | (rw [hy221]; exact H) | exact H
           have Ny221 := Aside0.mk hy221
           clear hy221
           have H' := Aside0.mk H
           clear H
           have p217 : 0 ≤ (x14_1 : Int) := of_decide_eq_true (by first | (with_reducible assumption) | assumption)
           have q217 : x14_1 < (t214.length : Int) := of_decide_eq_true (by first | (with_reducible assumption) | assumption)
           obtain ⟨ad217, e217, hx217_0⟩ := Kd.at_int (Kd.R_reads' HO_12.out).2.2 x14_1 p217 q217
           cases e217
           replace p217 := eq_true p217
           replace q217 := eq_true q217
           go_wp2_with (first | ((with_reducible refine gate_callee (f := 29) rfl ?_); refine goesL_ (some 20) rfl rfl Tryz.func29 (by kernel_rfl) rfl #[.slice A0 l0.length c0] rfl (by (try simp only [List.map_toArray, List.map_cons, List.map_nil]); first | done | rfl | (simp only [List.length_drop, List.length_take]; rfl)) ?_; (with_reducible refine (spec_VaBytes.calls k1 (fun k_ => k_ < w.heap.size) _ _ l0 t218 _ ?side1 A13.out).mono ?_); (case side1 => exact Kd.V_mk HC0.out (Kd.F_below (Kd.C_F (Kd.heap_int .u32) HR0.out) (by repeat (first | (with_reducible first | exact HB.out | apply below_alloc | apply pw_below_drewN | apply below_drew1) | exact HB.out)))); rintro e w19 ⟨v219, rfl, ho0, hb⟩; refine ⟨_, rfl, ?_⟩; have n0_ := Aside0.mk (Kd.R_elder' (by (with_reducible repeat (first | apply Kd.R_alloc | apply Kd.R_drewN | apply Kd.R_drew)); exact HO_5.out) (Kd.R_base ho0) hb); have n1_ := Aside0.mk (Kd.R_elder' (by (with_reducible repeat (first | apply Kd.R_alloc | apply Kd.R_drewN | apply Kd.R_drew)); exact HO_12.out) (Kd.R_base ho0) hb); have n2_ := Aside0.mk (Kd.R_lower (Kd.R_new' (Kd.R_new' (Kd.R_mono (ok' := fun k_ => True) ho0 (fun _ hk_ => trivial)) (Kd.R_lt (by (with_reducible repeat (first | apply Kd.R_alloc | apply Kd.R_drewN | apply Kd.R_drew)); exact HO_5.out))) (Kd.R_lt (by (with_reducible repeat (first | apply Kd.R_alloc | apply Kd.R_drewN | apply Kd.R_drew)); exact HO_12.out))) (below_size (by repeat (first | (with_reducible first | exact HB.out | apply below_alloc | apply pw_below_drewN | apply below_drew1) | exact HB.out)))); have n3_ := Aside0.mk (below_step (by repeat (first | (with_reducible first | exact HB.out | apply below_alloc | apply pw_below_drewN | apply below_drew1) | exact HB.out)) hb); clear HO_5; clear HO_12; clear HB; have HO_5 := n0_; have HO_12 := n1_; have HO220 := n2_; have HB := n3_; clear n0_ n1_ n2_ n3_; (try clear hb); (try clear hb2); (try clear hk); (try clear hi); (try clear ho0); obtain ⟨Ao20, co20, eo20⟩ := Kd.R_slice HO220.out; subst eo20; have p18 : 0 ≤ ((ji15) : Int) := of_decide_eq_true (by first | (with_reducible assumption) | assumption); have q18 : ((ji15) : Int) < ((x5_1.length : Int) : Int) := of_decide_eq_true (by first | (with_reducible assumption) | assumption); obtain ⟨go18, co18, eo18, gb18, gl18, cl18, HG18⟩ := Kd.R_form HO_5.out (by omega); (first | cases eo18 | (injection eo18 with ea_ en_ ec_; (first | subst ea_ | (injection ea_ with ea_; subst ea_)); subst ec_; clear en_)); have GB18 := Aside0.mk gb18; have GG18 := Aside0.mk HG18; clear gb18 gl18 HG18; obtain ⟨hx18_0, hf18_0⟩ := Kd.R_celln 0 HO_5.out ((ji15) : Int) p18 q18; replace p18 := eq_true p18; replace q18 := eq_true q18; obtain ⟨hy21_, hz21_⟩ := Kd.R_celln 0 HO_5.out ((ji15) : Int) (of_decide_eq_true (by first | (with_reducible assumption) | assumption)) (of_decide_eq_true (by first | (with_reducible assumption) | assumption)); have HP21 := Kd.R_putg HO_5.out ((ji15) : Int) (rd t214 x14_1)) | ((with_reducible refine gate_store (t := 5) (p := 31) rfl ?_); refine store_event (t := 5) (p := 31) (v := ?vo_w22) (w1 := (w19.setCell ⟨go18, ((ji15) : Int).toNat, none⟩ (.int .u8 (rd t214 x14_1)))) ?hg ?ho ?hn ?hr ?_; (case ho => rfl); (case hg => rfl); (case hn => rfl); (case hr => first | (go_simp; done) | (go_simp; rfl)); intro w22 hw; have hg : w19.grownBy w22 (some go18) := (by rw [hw]; exact HP21.2); have hp_ : Kd.R (Kd.int .u8) 5 w22 w.heap.size (fun k_ => some k_ ≠ (.slice (some ad217) t214.length co9 : Value).ownBlock ∧ some k_ ≠ (.slice Ao20 t218.length co20 : Value).ownBlock) (.slice (some ⟨go18, 0, none⟩) x5_1.length co18) y221 := (by rw [hw, Ny221.out]; exact HP21.1); clear HP21; have n0_ := Aside0.mk (hp_); have n1_ := Aside0.mk (Kd.R_after (v := (.slice (some ⟨go18, 0, none⟩) x5_1.length co18)) (v1 := (.slice (some ⟨go18, 0, none⟩) x5_1.length co18)) (ok := (fun k_ => some k_ ≠ (.slice Ao20 t218.length co20 : Value).ownBlock)) (by (with_reducible repeat (first | apply Kd.R_alloc | apply Kd.R_drewN | apply Kd.R_drew)); exact Kd.R_mono HO_12.out (fun _ hk => ⟨hk.2, hk.1⟩)) hg (.inl rfl)); have n2_ := Aside0.mk (Kd.R_after (v := (.slice (some ⟨go18, 0, none⟩) x5_1.length co18)) (v1 := (.slice (some ⟨go18, 0, none⟩) x5_1.length co18)) (ok := (fun k_ => some k_ ≠ (.slice (some ad217) t214.length co9 : Value).ownBlock)) (by (with_reducible repeat (first | apply Kd.R_alloc | apply Kd.R_drewN | apply Kd.R_drew)); exact Kd.R_mono HO220.out (fun _ hk => ⟨hk.2, hk.1.2⟩)) hg (.inl rfl)); have n3_ := Aside0.mk ((by rw [hw]; exact below_set (HB.out) GB18.out : Below w.heap.size w w22)); clear HO_5; clear HO_12; clear HO220; clear HB; have HO_5 := n0_; have HO_12 := n1_; have HO220 := n2_; have HB := n3_; clear n0_ n1_ n2_ n3_; clear hg hw hp_))
           go_roundg k1
           case measure => have := HK1.out; omega
           case rel => exact ⟨(y221), (wrap64 (x14_1 + 1)), (by first | rfl | (simp; done) | (simp [*]; done)), H', ⟨by have := HK1.out; omega⟩, ⟨by (with_reducible repeat (first | apply Kd.R_alloc | apply Kd.R_drewN | apply Kd.R_drew)); exact Kd.R_mono HO_5.out (fun _ hk => hk.1)⟩, ⟨by (with_reducible repeat (first | apply Kd.R_alloc | apply Kd.R_drewN | apply Kd.R_drew)); exact Kd.R_mono HO_12.out (fun _ hk => hk.2)⟩, ⟨by repeat (first | (with_reducible first | exact HB.out | apply below_alloc | apply pw_below_drewN | apply below_drew1) | exact HB.out)⟩⟩
          ·rw [if_neg c17] at H
           exact absurd H (by simp)
         ·rw [if_neg c16] at H
          exact absurd H (by simp)
        ·rw [if_neg c14] at H
         have c14b0 : decide ((wrap64 ((wrap64 ((t218.length : Int) - 1)) - x14_1)) < a1) = false := decide_eq_false c14
         clear c14
         have H' := Aside0.mk H
         clear H
         have p217 : 0 ≤ (x14_1 : Int) := of_decide_eq_true (by first | (with_reducible assumption) | assumption)
         have q217 : x14_1 < (t214.length : Int) := of_decide_eq_true (by first | (with_reducible assumption) | assumption)
         obtain ⟨ad217, e217, hx217_0⟩ := Kd.at_int (Kd.R_reads' HO_12.out).2.2 x14_1 p217 q217
         cases e217
         replace p217 := eq_true p217
         replace q217 := eq_true q217
         go_wp2_with (first | ((with_reducible refine gate_callee (f := 29) rfl ?_); refine goesL_ (some 20) rfl rfl Tryz.func29 (by kernel_rfl) rfl #[.slice A0 l0.length c0] rfl (by (try simp only [List.map_toArray, List.map_cons, List.map_nil]); first | done | rfl | (simp only [List.length_drop, List.length_take]; rfl)) ?_; (with_reducible refine (spec_VaBytes.calls k1 (fun k_ => k_ < w.heap.size) _ _ l0 t218 _ ?side1 A13.out).mono ?_); (case side1 => exact Kd.V_mk HC0.out (Kd.F_below (Kd.C_F (Kd.heap_int .u32) HR0.out) (by repeat (first | (with_reducible first | exact HB.out | apply below_alloc | apply pw_below_drewN | apply below_drew1) | exact HB.out)))); rintro e w23 ⟨v219, rfl, ho0, hb⟩; refine ⟨_, rfl, ?_⟩; have n0_ := Aside0.mk (Kd.R_elder' (by (with_reducible repeat (first | apply Kd.R_alloc | apply Kd.R_drewN | apply Kd.R_drew)); exact HO_5.out) (Kd.R_base ho0) hb); have n1_ := Aside0.mk (Kd.R_elder' (by (with_reducible repeat (first | apply Kd.R_alloc | apply Kd.R_drewN | apply Kd.R_drew)); exact HO_12.out) (Kd.R_base ho0) hb); have n2_ := Aside0.mk (Kd.R_lower (Kd.R_new' (Kd.R_new' (Kd.R_mono (ok' := fun k_ => True) ho0 (fun _ hk_ => trivial)) (Kd.R_lt (by (with_reducible repeat (first | apply Kd.R_alloc | apply Kd.R_drewN | apply Kd.R_drew)); exact HO_5.out))) (Kd.R_lt (by (with_reducible repeat (first | apply Kd.R_alloc | apply Kd.R_drewN | apply Kd.R_drew)); exact HO_12.out))) (below_size (by repeat (first | (with_reducible first | exact HB.out | apply below_alloc | apply pw_below_drewN | apply below_drew1) | exact HB.out)))); have n3_ := Aside0.mk (below_step (by repeat (first | (with_reducible first | exact HB.out | apply below_alloc | apply pw_below_drewN | apply below_drew1) | exact HB.out)) hb); clear HO_5; clear HO_12; clear HB; have HO_5 := n0_; have HO_12 := n1_; have HO220 := n2_; have HB := n3_; clear n0_ n1_ n2_ n3_; (try clear hb); (try clear hb2); (try clear hk); (try clear hi); (try clear ho0); obtain ⟨Ao24, co24, eo24⟩ := Kd.R_slice HO220.out; subst eo24))
         go_roundg k1
         case measure => have := HK1.out; omega
         case rel => exact ⟨(x5_1), (wrap64 (x14_1 + 1)), (by first | rfl | (simp; done) | (simp [*]; done)), H', ⟨by have := HK1.out; omega⟩, ⟨by (with_reducible repeat (first | apply Kd.R_alloc | apply Kd.R_drewN | apply Kd.R_drew)); exact Kd.R_mono HO_5.out (fun _ hk => hk.1)⟩, ⟨by (with_reducible repeat (first | apply Kd.R_alloc | apply Kd.R_drewN | apply Kd.R_drew)); exact Kd.R_mono HO_12.out (fun _ hk => hk.1)⟩, ⟨by repeat (first | (with_reducible first | exact HB.out | apply below_alloc | apply pw_below_drewN | apply below_drew1) | exact HB.out)⟩⟩
       ·rw [if_neg c12] at H
        exact absurd H (by simp)
      ·rw [if_neg c11] at H
       exact absurd H (by simp)
     ·rw [if_neg c10] at H
      have c10b0 : decide (x14_1 < (t214.length : Int)) = false := decide_eq_false c10
      clear c10
      obtain rfl := Option.some.inj H
      go_wp2
      go_ret
      exact ⟨_, by first | rfl | (simp [errW_none, errW_some] <;> rfl) | (simp [*, errW_none, errW_some] <;> rfl), by (with_reducible repeat (first | apply Kd.R_alloc | apply Kd.R_drewN | apply Kd.R_drew)); exact Kd.R_mono HO_5.out (fun _ hk => trivial), by repeat (first | (with_reducible first | exact HB.out | apply below_alloc | apply pw_below_drewN | apply below_drew1) | exact HB.out)⟩
  ·rw [if_neg c4] at H
   exact absurd H (by simp)
 ·rw [if_neg c3] at H
  exact absurd H (by simp)
def spec_NatCmp.l0 : Nat → List Int → List Int → Int → Option (Int)
 | 0, _, _, _ => none
 | k + 1, x0, x1, x5 => if x5 ≥ 0 then (if 0 ≤ x5 then (if x5 < (x0.length : Int) then (if x5 < (x1.length : Int) then (if (rd x0 x5) = (rd x1 x5) then (spec_NatCmp.l0 k x0 x1 (wrap64 (x5 - 1))) else (if (rd x0 x5) < (rd x1 x5) then (some (-1)) else (some 1))) else (none)) else (none)) else (none)) else (some 0)
def spec_NatCmp.f (k : Nat) (l0 : List Int) (l1 : List Int) : Option (Int) := if (l0.length : Int) = (l1.length : Int) then (spec_NatCmp.l0 k l0 l1 (wrap64 ((l0.length : Int) - 1))) else (if (l0.length : Int) < (l1.length : Int) then (some (-1)) else (some 1))
theorem spec_NatCmp.mono_l : ∀ k, (∀ y0 y1 y2, LeO (spec_NatCmp.l0 k y0 y1 y2) (spec_NatCmp.l0 (k + 1) y0 y1 y2))
 | 0 => fun _ _ _ r h => by simp [spec_NatCmp.l0] at h
 | k + 1 => by
  have ih0 := spec_NatCmp.mono_l k
  ·intro y0 y1 y2
   unfold spec_NatCmp.l0
   repeat' first
   | (with_reducible exact ih0 _ _ _)
   | (with_reducible exact LeO.refl _)
   | (with_reducible exact LeO.none _)
   | (with_reducible refine LeO.ite ?_ ?_)
   | (with_reducible refine LeO.bind ?_ (fun _ => ?_))
   | exact ih0 _ _ _
   | exact LeO.none _
   | refine LeO.ite ?_ ?_
   | refine LeO.bind ?_ (fun _ => ?_)
theorem spec_NatCmp.mono : ∀ a0 a1 k, LeO (spec_NatCmp.f k a0 a1) (spec_NatCmp.f (k + 1) a0 a1) := by
 intro a0 a1 k
 have ih0 := spec_NatCmp.mono_l k
 unfold spec_NatCmp.f
 repeat' first
   | (with_reducible exact ih0 _ _ _)
   | (with_reducible exact LeO.refl _)
   | (with_reducible exact LeO.none _)
   | (with_reducible refine LeO.ite ?_ ?_)
   | (with_reducible refine LeO.bind ?_ (fun _ => ?_))
   | exact ih0 _ _ _
   | exact LeO.none _
   | refine LeO.ite ?_ ?_
   | refine LeO.bind ?_ (fun _ => ?_)
set_option maxHeartbeats 8000000 in
set_option maxRecDepth 100000 in
theorem spec_NatCmp.calls (k : Nat) (A0 : Option Addr) (c0 : Nat) (l0 : List Int) (A1 : Option Addr) (c1 : Nat) (l1 : List Int) (r : Int) (w : World) (hr0 : Kd.C (Kd.int .u32) w A0 l0.length l0) (hc0 : l0.length ≤ c0) (hr1 : Kd.C (Kd.int .u32) w A1 l1.length l1) (hc1 : l1.length ≤ c1) (h : spec_NatCmp.f k l0 l1 = some r) :
  Calls Tryz.prog 19 #[.slice A0 l0.length c0, .slice A1 l1.length c1] w fun e w' => e = .returned (.int .i64 r) ∧ Drawn0 w w' := by
 have HR0 := Aside0.mk hr0
 have HC0 := Aside0.mk hc0
 clear hr0 hc0
 have HR1 := Aside0.mk hr1
 have HC1 := Aside0.mk hc1
 clear hr1 hc1
 have H : (if (l0.length : Int) = (l1.length : Int) then (spec_NatCmp.l0 k l0 l1 (wrap64 ((l0.length : Int) - 1))) else (if (l0.length : Int) < (l1.length : Int) then (some (-1)) else (some 1))) = some r := h
 clear h
 by_cases c3 : (l0.length : Int) = (l1.length : Int)
 ·rw [if_pos c3] at H
  have c3b0 : ((l0.length : Int) == (l1.length : Int)) = true := beq_iff_eq.mpr c3
  have c3b1 : ((l0.length : Int) != (l1.length : Int)) = false := bne_eq_false_iff_eq.mpr c3
  have c3b2 : (l0.length == l1.length) = true := by first | simpa using c3 | (simp at c3 ⊢; omega)
  clear c3
  have H' := Aside0.mk H
  clear H
  go_enter Tryz.func19, Tryz.ntmps19
  go_wp2
  repeat (go_quiet (fail); try go_wp2)
  go_loopg [5] k (fun kq v5 w' => ∃ (x5_1 : Int), v5 = .int .i64 x5_1 ∧ Aside0 (spec_NatCmp.l0 kq l0 l1 x5_1 = some r) ∧ Aside0 (kq ≤ k) ∧ Drawn0 w w')
  case atStart => exact ⟨(wrap64 ((l0.length : Int) - 1)), (by first | rfl | (simp; done) | (simp [*]; done)), H', ⟨Nat.le_refl _⟩, by repeat (first | exact Drawn0.refl _ | apply Drawn0.step)⟩
  case round =>
   clear H'
   try clear c1
   try clear p2
   try clear c3
   try clear c3b0
   try clear c3b1
   try clear c3b2
   obtain ⟨x5_1, rfl, HA, HK1, ⟨m1, rfl⟩⟩ := hrel
   cases gk with
   | zero => exact absurd HA.out (by simp [spec_NatCmp.l0])
   | succ k1 =>
    have H := HA.out
    clear HA
    simp only [spec_NatCmp.l0] at H
    by_cases c4 : x5_1 ≥ 0
    ·rw [if_pos c4] at H
     have c4b0 : decide (0 ≤ x5_1) = true := decide_eq_true c4
     clear c4
     by_cases c5 : 0 ≤ x5_1
     ·rw [if_pos c5] at H
      have c5b0 : decide (0 ≤ x5_1) = true := decide_eq_true c5
      clear c5
      by_cases c6 : x5_1 < (l0.length : Int)
      ·rw [if_pos c6] at H
       have c6b0 : decide (x5_1 < (l0.length : Int)) = true := decide_eq_true c6
       clear c6
       by_cases c7 : x5_1 < (l1.length : Int)
       ·rw [if_pos c7] at H
        have c7b0 : decide (x5_1 < (l1.length : Int)) = true := decide_eq_true c7
        clear c7
        by_cases c8 : (rd l0 x5_1) = (rd l1 x5_1)
        ·rw [if_pos c8] at H
         have c8b0 : ((rd l0 x5_1) == (rd l1 x5_1)) = true := beq_iff_eq.mpr c8
         have c8b1 : ((rd l0 x5_1) != (rd l1 x5_1)) = false := bne_eq_false_iff_eq.mpr c8
         clear c8
         have H' := Aside0.mk H
         clear H
         have p222 : 0 ≤ (x5_1 : Int) := of_decide_eq_true (by first | (with_reducible assumption) | assumption)
         have q222 : x5_1 < (l0.length : Int) := of_decide_eq_true (by first | (with_reducible assumption) | assumption)
         obtain ⟨ad222, e222, hx222_0⟩ := Kd.at_int HR0.out x5_1 p222 q222
         cases e222
         replace p222 := eq_true p222
         replace q222 := eq_true q222
         have p223 : 0 ≤ (x5_1 : Int) := of_decide_eq_true (by first | (with_reducible assumption) | assumption)
         have q223 : x5_1 < (l1.length : Int) := of_decide_eq_true (by first | (with_reducible assumption) | assumption)
         obtain ⟨ad223, e223, hx223_0⟩ := Kd.at_int HR1.out x5_1 p223 q223
         cases e223
         replace p223 := eq_true p223
         replace q223 := eq_true q223
         go_wp2
         repeat (go_quiet (fail); try go_wp2)
         go_roundg k1
         case measure => have := HK1.out; omega
         case rel => exact ⟨(wrap64 (x5_1 - 1)), (by first | rfl | (simp; done) | (simp [*]; done)), H', ⟨by have := HK1.out; omega⟩, by repeat (first | exact Drawn0.refl _ | apply Drawn0.step)⟩
        ·rw [if_neg c8] at H
         have c8b0 : ((rd l0 x5_1) == (rd l1 x5_1)) = false := beq_eq_false_iff_ne.mpr c8
         have c8b1 : ((rd l0 x5_1) != (rd l1 x5_1)) = true := bne_iff_ne.mpr c8
         by_cases c9 : (rd l0 x5_1) < (rd l1 x5_1)
         ·rw [if_pos c9] at H
          have c9b0 : decide ((rd l0 x5_1) < (rd l1 x5_1)) = true := decide_eq_true c9
          clear c9
          obtain rfl := Option.some.inj H
          have p222 : 0 ≤ (x5_1 : Int) := of_decide_eq_true (by first | (with_reducible assumption) | assumption)
          have q222 : x5_1 < (l0.length : Int) := of_decide_eq_true (by first | (with_reducible assumption) | assumption)
          obtain ⟨ad222, e222, hx222_0⟩ := Kd.at_int HR0.out x5_1 p222 q222
          cases e222
          replace p222 := eq_true p222
          replace q222 := eq_true q222
          have p223 : 0 ≤ (x5_1 : Int) := of_decide_eq_true (by first | (with_reducible assumption) | assumption)
          have q223 : x5_1 < (l1.length : Int) := of_decide_eq_true (by first | (with_reducible assumption) | assumption)
          obtain ⟨ad223, e223, hx223_0⟩ := Kd.at_int HR1.out x5_1 p223 q223
          cases e223
          replace p223 := eq_true p223
          replace q223 := eq_true q223
          have p224 : 0 ≤ (x5_1 : Int) := of_decide_eq_true (by first | (with_reducible assumption) | assumption)
          have q224 : x5_1 < (l0.length : Int) := of_decide_eq_true (by first | (with_reducible assumption) | assumption)
          obtain ⟨ad224, e224, hx224_0⟩ := Kd.at_int HR0.out x5_1 p224 q224
          obtain rfl : ad222 = ad224 := (by injection e224)
          replace p224 := eq_true p224
          replace q224 := eq_true q224
          have p225 : 0 ≤ (x5_1 : Int) := of_decide_eq_true (by first | (with_reducible assumption) | assumption)
          have q225 : x5_1 < (l1.length : Int) := of_decide_eq_true (by first | (with_reducible assumption) | assumption)
          obtain ⟨ad225, e225, hx225_0⟩ := Kd.at_int HR1.out x5_1 p225 q225
          obtain rfl : ad223 = ad225 := (by injection e225)
          replace p225 := eq_true p225
          replace q225 := eq_true q225
          go_wp2
          repeat (go_quiet (fail); try go_wp2)
          go_ret
          exact ⟨by first | rfl | (simp; done) | (simp [*]; done), by repeat (first | exact Drawn0.refl _ | apply Drawn0.step)⟩
         ·rw [if_neg c9] at H
          have c9b0 : decide ((rd l0 x5_1) < (rd l1 x5_1)) = false := decide_eq_false c9
          clear c9
          obtain rfl := Option.some.inj H
          have p222 : 0 ≤ (x5_1 : Int) := of_decide_eq_true (by first | (with_reducible assumption) | assumption)
          have q222 : x5_1 < (l0.length : Int) := of_decide_eq_true (by first | (with_reducible assumption) | assumption)
          obtain ⟨ad222, e222, hx222_0⟩ := Kd.at_int HR0.out x5_1 p222 q222
          cases e222
          replace p222 := eq_true p222
          replace q222 := eq_true q222
          have p223 : 0 ≤ (x5_1 : Int) := of_decide_eq_true (by first | (with_reducible assumption) | assumption)
          have q223 : x5_1 < (l1.length : Int) := of_decide_eq_true (by first | (with_reducible assumption) | assumption)
          obtain ⟨ad223, e223, hx223_0⟩ := Kd.at_int HR1.out x5_1 p223 q223
          cases e223
          replace p223 := eq_true p223
          replace q223 := eq_true q223
          have p224 : 0 ≤ (x5_1 : Int) := of_decide_eq_true (by first | (with_reducible assumption) | assumption)
          have q224 : x5_1 < (l0.length : Int) := of_decide_eq_true (by first | (with_reducible assumption) | assumption)
          obtain ⟨ad224, e224, hx224_0⟩ := Kd.at_int HR0.out x5_1 p224 q224
          obtain rfl : ad222 = ad224 := (by injection e224)
          replace p224 := eq_true p224
          replace q224 := eq_true q224
          have p225 : 0 ≤ (x5_1 : Int) := of_decide_eq_true (by first | (with_reducible assumption) | assumption)
          have q225 : x5_1 < (l1.length : Int) := of_decide_eq_true (by first | (with_reducible assumption) | assumption)
          obtain ⟨ad225, e225, hx225_0⟩ := Kd.at_int HR1.out x5_1 p225 q225
          obtain rfl : ad223 = ad225 := (by injection e225)
          replace p225 := eq_true p225
          replace q225 := eq_true q225
          go_wp2
          repeat (go_quiet (fail); try go_wp2)
          go_ret
          exact ⟨by first | rfl | (simp; done) | (simp [*]; done), by repeat (first | exact Drawn0.refl _ | apply Drawn0.step)⟩
       ·rw [if_neg c7] at H
        exact absurd H (by simp)
      ·rw [if_neg c6] at H
       exact absurd H (by simp)
     ·rw [if_neg c5] at H
      exact absurd H (by simp)
    ·rw [if_neg c4] at H
     have c4b0 : decide (0 ≤ x5_1) = false := decide_eq_false c4
     clear c4
     obtain rfl := Option.some.inj H
     go_wp2
     repeat (go_quiet (fail); try go_wp2)
     go_ret
     exact ⟨by first | rfl | (simp; done) | (simp [*]; done), by repeat (first | exact Drawn0.refl _ | apply Drawn0.step)⟩
 ·rw [if_neg c3] at H
  have c3b0 : ((l0.length : Int) == (l1.length : Int)) = false := beq_eq_false_iff_ne.mpr c3
  have c3b1 : ((l0.length : Int) != (l1.length : Int)) = true := bne_iff_ne.mpr c3
  have c3b2 : (l0.length == l1.length) = false := by first | simpa using c3 | (simp at c3 ⊢; omega)
  by_cases c10 : (l0.length : Int) < (l1.length : Int)
  ·rw [if_pos c10] at H
   have c10b0 : decide ((l0.length : Int) < (l1.length : Int)) = true := decide_eq_true c10
   have c10b1 : decide (l0.length < l1.length) = true := decide_eq_true (Int.ofNat_lt.mp c10)
   clear c10
   obtain rfl := Option.some.inj H
   go_enter Tryz.func19, Tryz.ntmps19
   go_wp2
   repeat (go_quiet (fail); try go_wp2)
   go_ret
   exact ⟨by first | rfl | (simp; done) | (simp [*]; done), by repeat (first | exact Drawn0.refl _ | apply Drawn0.step)⟩
  ·rw [if_neg c10] at H
   have c10b0 : decide ((l0.length : Int) < (l1.length : Int)) = false := decide_eq_false c10
   have c10b1 : decide (l0.length < l1.length) = false := decide_eq_false (fun h => c10 (Int.ofNat_lt.mpr h))
   clear c10
   obtain rfl := Option.some.inj H
   go_enter Tryz.func19, Tryz.ntmps19
   go_wp2
   repeat (go_quiet (fail); try go_wp2)
   go_ret
   exact ⟨by first | rfl | (simp; done) | (simp [*]; done), by repeat (first | exact Drawn0.refl _ | apply Drawn0.step)⟩
end Go.Proofs.YthocmhkafgpgbaaGreatDoor.PFnVaFieldFixed
