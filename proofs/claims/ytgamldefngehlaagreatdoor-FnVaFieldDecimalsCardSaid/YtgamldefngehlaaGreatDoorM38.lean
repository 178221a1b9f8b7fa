/- The reference's functions: part D. -/
import Derived.Test.YtgamldefngehlaaGreatDoorM35
import Derived.Test.YtgamldefngehlaaGreatDoorM36
import Derived.Test.YtgamldefngehlaaGreatDoorM37
namespace Go.Proofs.YtgamldefngehlaaGreatDoor.PFnVaFieldDecimals
open Go.RowKit Go.Proofs.YtgamldefngehlaaGreatDoorW.PrintWords Go.Proofs.YtgamldefngehlaaGreatDoorW.PrintLast Go.Proofs.YtgamldefngehlaaGreatDoorW.PrintMore
attribute [local go_sem] max2_int min2_int max_two min_two max_three min_three max_four min_four
set_option linter.unusedVariables false
set_option linter.unusedSimpArgs false
def spec_Pow10.l0 : Nat → Int → List Int → Int → Int → Option (List Int)
 | 0, _, _, _, _ => none
 | k + 1, x0, x3, x4, x5 => if x5 < (Int.tmod x0 9) then (spec_Pow10.l0 k x0 x3 ((x4 * 10) % 4294967296) (wrap64 (x5 + 1))) else (if 0 ≤ (wrap64 (Int.tdiv x0 9)) then (if (wrap64 (Int.tdiv x0 9)) < (x3.length : Int) then (some (x3.set ((wrap64 (Int.tdiv x0 9)) : Int).toNat x4)) else (none)) else (none))
def spec_Pow10.f (k : Nat) (a0 : Int) : Option (List Int) := if a0 < 0 then (some ([] : List Int)) else (if 0 ≤ (wrap64 ((wrap64 (Int.tdiv a0 9)) + 1)) then (if (wrap64 ((wrap64 (Int.tdiv a0 9)) + 1) : Int).toNat ≤ 70368744177664 then (spec_Pow10.l0 k a0 (List.replicate (wrap64 ((wrap64 (Int.tdiv a0 9)) + 1) : Int).toNat 0) 1 0) else (none)) else (none))
theorem spec_Pow10.mono_l : ∀ k, (∀ y0 y1 y2 y3, LeO (spec_Pow10.l0 k y0 y1 y2 y3) (spec_Pow10.l0 (k + 1) y0 y1 y2 y3))
 | 0 => fun _ _ _ _ r h => by simp [spec_Pow10.l0] at h
 | k + 1 => by
  have ih0 := spec_Pow10.mono_l k
  ·intro y0 y1 y2 y3
   unfold spec_Pow10.l0
   repeat' first
   | (with_reducible exact ih0 _ _ _ _)
   | (with_reducible exact LeO.refl _)
   | (with_reducible exact LeO.none _)
   | (with_reducible refine LeO.ite ?_ ?_)
   | (with_reducible refine LeO.bind ?_ (fun _ => ?_))
   | exact ih0 _ _ _ _
   | exact LeO.none _
   | refine LeO.ite ?_ ?_
   | refine LeO.bind ?_ (fun _ => ?_)
theorem spec_Pow10.mono : ∀ a0 k, LeO (spec_Pow10.f k a0) (spec_Pow10.f (k + 1) a0) := by
 intro a0 k
 have ih0 := spec_Pow10.mono_l k
 unfold spec_Pow10.f
 repeat' first
   | (with_reducible exact ih0 _ _ _ _)
   | (with_reducible exact LeO.refl _)
   | (with_reducible exact LeO.none _)
   | (with_reducible refine LeO.ite ?_ ?_)
   | (with_reducible refine LeO.bind ?_ (fun _ => ?_))
   | exact ih0 _ _ _ _
   | exact LeO.none _
   | refine LeO.ite ?_ ?_
   | refine LeO.bind ?_ (fun _ => ?_)
set_option maxHeartbeats 8000000 in
set_option maxRecDepth 100000 in
theorem spec_Pow10.calls (k : Nat) (a0 : Int) (r : List Int) (w : World) (h : spec_Pow10.f k a0 = some r) :
  Calls Tryz.prog 15 #[.int .i64 a0] w fun e w' => ∃ v0_ : Value, e = .returned (v0_) ∧ Kd.R (Kd.int .u32) 87 w' w.heap.size (fun _ => True) v0_ r ∧ Below w.heap.size w w' := by
 have HB := Aside0.mk (Below.refl w.heap.size w)
 have H : (if a0 < 0 then (some ([] : List Int)) else (if 0 ≤ (wrap64 ((wrap64 (Int.tdiv a0 9)) + 1)) then (if (wrap64 ((wrap64 (Int.tdiv a0 9)) + 1) : Int).toNat ≤ 70368744177664 then (spec_Pow10.l0 k a0 (List.replicate (wrap64 ((wrap64 (Int.tdiv a0 9)) + 1) : Int).toNat 0) 1 0) else (none)) else (none))) = some r := h
 clear h
 by_cases c2 : a0 < 0
 ·rw [if_pos c2] at H
  have c2b0 : decide (a0 < 0) = true := decide_eq_true c2
  clear c2
  obtain rfl := Option.some.inj H
  go_enter Tryz.func15, Tryz.ntmps15
  go_wp2
  go_ret
  exact ⟨_, by first | rfl | (simp [errW_none, errW_some] <;> rfl) | (simp [*, errW_none, errW_some] <;> rfl), by first | exact Kd.R_nil _ _ _ _ _ | exact Kd.N_nil _ _ _ _ _ | exact Kd.V_nil _ _ _ _ _ | exact Kd.Q_nil _ _ _ _ _ | exact Kd.S_nil _ _ _ _ _, by repeat (first | (with_reducible first | exact HB.out | apply below_alloc | apply pw_below_drewN | apply below_drew1) | exact HB.out)⟩
 ·rw [if_neg c2] at H
  have c2b0 : decide (a0 < 0) = false := decide_eq_false c2
  clear c2
  obtain ⟨ji3, hji3⟩ : ∃ j_ : Int, (wrap64 ((wrap64 (Int.tdiv a0 9)) + 1)) = j_ := ⟨_, rfl⟩
  replace H : (if 0 ≤ (ji3) then (if (ji3 : Int).toNat ≤ 70368744177664 then (spec_Pow10.l0 k a0 (List.replicate (ji3 : Int).toNat 0) 1 0) else (none)) else (none)) = some r := by first | (rw [hji3] at H; exact H) | (simp only [hji3] at H ⊢; exact H)
  have hji3w : (IntKind.i64.wrap ((wrap64 (Int.tdiv a0 9)) + 1)) = ji3 := (i64_w _).trans hji3
  by_cases c4 : 0 ≤ (ji3)
  ·rw [if_pos c4] at H
   have c4b0 := eq_true c4
   have c4b1 : decide (0 ≤ (ji3)) = true := decide_eq_true c4
   clear c4
   by_cases c5 : (ji3 : Int).toNat ≤ 70368744177664
   ·rw [if_pos c5] at H
    have c5b0 := eq_true c5
    have c5b1 : decide ((ji3 : Int).toNat ≤ 70368744177664) = true := decide_eq_true c5
    clear c5
    obtain ⟨y165, hy165⟩ : ∃ y_ : List Int, y_ = (List.replicate (ji3 : Int).toNat 0) := ⟨_, rfl⟩
    replace H : (spec_Pow10.l0 k a0 y165 1 0) = some r := by first | (rw [hy165]; with_reducible exact H) | (have H2_ := (Option.bind_some _ _).symm.trans H; rw [hy165]; with_reducible exact H2_) | (have H2_ := (Option.bind_some _ _).symm.trans H; with_reducible exact H2_) | with_reducible exact H | (rw [hy165]; exact H) | exact H
    have Ny165 := Aside0.mk hy165
    clear hy165
    have H' := Aside0.mk H
    clear H
    go_enter Tryz.func15, Tryz.ntmps15
    go_wp2_with (first | ((with_reducible refine gate_dst (N := 11) rfl ?_); refine Kd.R_make (Kd.int .u32) _ 87 rfl (N := 11) rfl 27 _ _ rfl ji3 rfl rfl Tryz.underlying27 (.int .u32 0) 4 info87 rfl (by decide) (by omega) 0 (ok := fun _ => True) (okp := fun _ => True) rfl (fun _ hk => hk) trivial (of_decide_eq_true (by first | (with_reducible assumption) | assumption)) (Nat.le_trans (Nat.mul_le_mul_right _ (of_decide_eq_true (by first | (with_reducible assumption) | assumption) : ji3.toNat ≤ 70368744177664)) (by omega)) (Below.refl _ _) (Nat.le_refl _) ?_; intro v166 w6 ho7 hb hg_ hnew_; clear hg_ hnew_; (first | rw [← Ny165.out] at ho7 | (simp only [Int.reduceToNat] at ho7; rw [← Ny165.out] at ho7)); have n0_ := Aside0.mk (Kd.R_lower ho7 (below_size (by repeat (first | (with_reducible first | exact HB.out | apply below_alloc | apply pw_below_drewN | apply below_drew1) | exact HB.out)))); have n1_ := Aside0.mk (below_step (by repeat (first | (with_reducible first | exact HB.out | apply below_alloc | apply pw_below_drewN | apply below_drew1) | exact HB.out)) hb); clear HB; have HO167 := n0_; have HB := n1_; clear n0_ n1_; clear hb ho7))
    go_loopg [4, 5] k (fun kq v4 v5 w' => ∃ (x4_1 : Int) (x5_1 : Int), v4 = .int .u32 x4_1 ∧ v5 = .int .i64 x5_1 ∧ Aside0 (spec_Pow10.l0 kq a0 y165 x4_1 x5_1 = some r) ∧ Aside0 (kq ≤ k) ∧ Aside0 (Kd.R (Kd.int .u32) 87 w' w.heap.size (fun _ => True) v166 y165) ∧ Aside0 (Below w.heap.size w w'))
    case atStart => exact ⟨(1), (0), (by first | rfl | (simp; done) | (simp [*]; done)), (by first | rfl | (simp; done) | (simp [*]; done)), H', ⟨Nat.le_refl _⟩, ⟨by (with_reducible repeat (first | apply Kd.R_alloc | apply Kd.R_drewN | apply Kd.R_drew)); exact HO167.out⟩, ⟨by repeat (first | (with_reducible first | exact HB.out | apply below_alloc | apply pw_below_drewN | apply below_drew1) | exact HB.out)⟩⟩
    case round =>
     clear H'
     try clear c1
     try clear c2
     try clear c2b0
     try clear p2
     try clear c4
     try clear c4b0
     try clear c4b1
     try clear c5
     try clear c5b0
     try clear c5b1
     try clear p6
     obtain ⟨x4_1, x5_1, rfl, rfl, HA, HK1, HO_3, HB⟩ := hrel
     cases gk with
     | zero => exact absurd HA.out (by simp [spec_Pow10.l0])
     | succ k1 =>
      have H := HA.out
      clear HA
      simp only [spec_Pow10.l0] at H
      by_cases c8 : x5_1 < (Int.tmod a0 9)
      ·rw [if_pos c8] at H
       have c8b0 : decide (x5_1 < (Int.tmod a0 9)) = true := decide_eq_true c8
       clear c8
       have H' := Aside0.mk H
       clear H
       go_wp2
       go_roundg k1
       case measure => have := HK1.out; omega
       case rel => exact ⟨((x4_1 * 10) % 4294967296), (wrap64 (x5_1 + 1)), (by first | rfl | (simp; done) | (simp [*]; done)), (by first | rfl | (simp; done) | (simp [*]; done)), H', ⟨by have := HK1.out; omega⟩, ⟨by (with_reducible repeat (first | apply Kd.R_alloc | apply Kd.R_drewN | apply Kd.R_drew)); exact HO_3.out⟩, ⟨by repeat (first | (with_reducible first | exact HB.out | apply below_alloc | apply pw_below_drewN | apply below_drew1) | exact HB.out)⟩⟩
      ·rw [if_neg c8] at H
       have c8b0 : decide (x5_1 < (Int.tmod a0 9)) = false := decide_eq_false c8
       clear c8
       obtain ⟨ji9, hji9⟩ : ∃ j_ : Int, (wrap64 (Int.tdiv a0 9)) = j_ := ⟨_, rfl⟩
       replace H : (if 0 ≤ (ji9) then (if (ji9) < (y165.length : Int) then (some (y165.set ((ji9) : Int).toNat x4_1)) else (none)) else (none)) = some r := by first | (rw [hji9] at H; exact H) | (simp only [hji9] at H ⊢; exact H)
       have hji9w : (IntKind.i64.wrap (Int.tdiv a0 9)) = ji9 := (i64_w _).trans hji9
       by_cases c10 : 0 ≤ (ji9)
       ·rw [if_pos c10] at H
        have c10b0 : decide (0 ≤ (ji9)) = true := decide_eq_true c10
        clear c10
        by_cases c11 : (ji9) < (y165.length : Int)
        ·rw [if_pos c11] at H
         have c11b0 : decide ((ji9) < (y165.length : Int)) = true := decide_eq_true c11
         clear c11
         obtain ⟨y168, hy168⟩ : ∃ y_ : List Int, y_ = (y165.set ((ji9) : Int).toNat x4_1) := ⟨_, rfl⟩
         replace H : (some y168) = some r := by first | (rw [hy168]; with_reducible exact H) | (have H2_ := (Option.bind_some _ _).symm.trans H; rw [hy168]; with_reducible exact H2_) | (have H2_ := (Option.bind_some _ _).symm.trans H; with_reducible exact H2_) | with_reducible exact H | (rw [hy168]; exact H) | exact H
         have Ny168 := Aside0.mk hy168
         clear hy168
         obtain rfl := Option.some.inj H
         have p12 : 0 ≤ ((ji9) : Int) := of_decide_eq_true (by first | (with_reducible assumption) | assumption)
         have q12 : ((ji9) : Int) < ((y165.length : Int) : Int) := of_decide_eq_true (by first | (with_reducible assumption) | assumption)
         obtain ⟨go12, co12, eo12, gb12, gl12, cl12, HG12⟩ := Kd.R_form HO_3.out (by omega)
         (first | cases eo12 | (injection eo12 with ea_ en_ ec_; (first | subst ea_ | (injection ea_ with ea_; subst ea_)); subst ec_; clear en_))
         have GB12 := Aside0.mk gb12
         have GG12 := Aside0.mk HG12
         clear gb12 gl12 HG12
         obtain ⟨hx12_0, hf12_0⟩ := Kd.R_celln 0 HO_3.out ((ji9) : Int) p12 q12
         replace p12 := eq_true p12
         replace q12 := eq_true q12
         have HP13 := Kd.R_putg HO_3.out ((ji9) : Int) x4_1
         go_wp2_with (first | ((with_reducible refine gate_store (t := 87) (p := 24) rfl ?_); refine store_event (t := 87) (p := 24) (v := ?vo_w14) (w1 := (wr.setCell ⟨go12, ((ji9) : Int).toNat, none⟩ (.int .u32 x4_1))) ?hg ?ho ?hn ?hr ?_; (case ho => rfl); (case hg => rfl); (case hn => rfl); (case hr => first | (go_simp; done) | (go_simp; rfl)); intro w14 hw; have hg : wr.grownBy w14 (some go12) := (by rw [hw]; exact HP13.2); have hp_ : Kd.R (Kd.int .u32) 87 w14 w.heap.size (fun _ => True) (.slice (some ⟨go12, 0, none⟩) y165.length co12) y168 := (by rw [hw, Ny168.out]; exact HP13.1); clear HP13; have n0_ := Aside0.mk (hp_); have n1_ := Aside0.mk ((by rw [hw]; exact below_set (HB.out) GB12.out : Below w.heap.size w w14)); clear HO_3; clear HB; have HO_3 := n0_; have HB := n1_; clear n0_ n1_; clear hg hw hp_))
         go_ret
         exact ⟨_, by first | rfl | (simp [errW_none, errW_some] <;> rfl) | (simp only [← hji3, ← hji9]; first | rfl | (simp [errW_none, errW_some] <;> rfl)) | (simp [*, errW_none, errW_some] <;> rfl), by (with_reducible repeat (first | apply Kd.R_alloc | apply Kd.R_drewN | apply Kd.R_drew)); exact HO_3.out, by repeat (first | (with_reducible first | exact HB.out | apply below_alloc | apply pw_below_drewN | apply below_drew1) | exact HB.out)⟩
        ·rw [if_neg c11] at H
         exact absurd H (by simp)
       ·rw [if_neg c10] at H
        exact absurd H (by simp)
   ·rw [if_neg c5] at H
    exact absurd H (by simp)
  ·rw [if_neg c4] at H
   exact absurd H (by simp)
def spec_one.f  : Option (List Int) := some (([1] : List Int))
set_option maxHeartbeats 8000000 in
set_option maxRecDepth 100000 in
theorem spec_one.calls  (r : List Int) (w : World) (h : spec_one.f  = some r) :
  Calls Tryz.prog 16 #[] w fun e w' => ∃ v0_ : Value, e = .returned (v0_) ∧ Kd.R (Kd.int .u32) 87 w' w.heap.size (fun _ => True) v0_ r ∧ Below w.heap.size w w' := by
 have HB := Aside0.mk (Below.refl w.heap.size w)
 have H : (some (([1] : List Int))) = some r := h
 clear h
 obtain ⟨y169, hy169⟩ : ∃ y_ : List Int, y_ = (([1] : List Int)) := ⟨_, rfl⟩
 replace H : (some y169) = some r := by first | (rw [hy169]; with_reducible exact H) | (have H2_ := (Option.bind_some _ _).symm.trans H; rw [hy169]; with_reducible exact H2_) | (have H2_ := (Option.bind_some _ _).symm.trans H; with_reducible exact H2_) | with_reducible exact H | (rw [hy169]; exact H) | exact H
 have Ny169 := Aside0.mk hy169
 clear hy169
 obtain rfl := Option.some.inj H
 go_enter Tryz.func16, Tryz.ntmps16
 go_wp2_with (first | ((with_reducible refine gate_dst (N := 1) rfl ?_); refine Kd.R_lit (Kd.int .u32) _ 87 ?hg (N := 1) ?hd (xs := ([1] : List Int)) (inner := [.int .u32 1]) (ok := fun _ => True) (okp := fun _ => True) ?hr ?hp (fun _ hk => hk) trivial (Below.refl _ _) (Nat.le_refl _) (by simp) ?_; (case hd => rfl); (case hg => rfl); (case hr => first | (go_simp; done) | (go_simp; rfl)); (case hp => exact (Reps.one (show Kd.M (Kd.int .u32) _ _ _ 1 [.int .u32 1] from rfl) (Reps.none _ _))); intro v170 w1 ho2 hb hg_ hnew_; clear hg_ hnew_; (first | rw [← Ny169.out] at ho2 | (simp only [Int.reduceToNat] at ho2; rw [← Ny169.out] at ho2)); have n0_ := Aside0.mk (Kd.R_lower ho2 (below_size (by repeat (first | (with_reducible first | exact HB.out | apply below_alloc | apply pw_below_drewN | apply below_drew1) | exact HB.out)))); have n1_ := Aside0.mk (below_step (by repeat (first | (with_reducible first | exact HB.out | apply below_alloc | apply pw_below_drewN | apply below_drew1) | exact HB.out)) hb); clear HB; have HO171 := n0_; have HB := n1_; clear n0_ n1_; clear hb ho2))
 go_ret
 exact ⟨_, by first | rfl | (simp [errW_none, errW_some] <;> rfl) | (simp [*, errW_none, errW_some] <;> rfl), by (with_reducible repeat (first | apply Kd.R_alloc | apply Kd.R_drewN | apply Kd.R_drew)); exact HO171.out, by repeat (first | (with_reducible first | exact HB.out | apply below_alloc | apply pw_below_drewN | apply below_drew1) | exact HB.out)⟩
def spec_natShort.l0 : Nat → List Int → Int → List Int → Int → Int → Option (List Int × Int)
 | 0, _, _, _, _, _ => none
 | k + 1, x0, x1, x6, x7, x8 => if x8 ≥ 0 then (if 0 ≤ x8 then (if x8 < (x0.length : Int) then (if (IntKind.u64.wrap (x1)) = 0 then (none) else (if x8 < (x6.length : Int) then (spec_natShort.l0 k x0 x1 (x6.set (x8 : Int).toNat ((IntKind.u64.wrap (Int.tdiv (IntKind.u64.wrap ((IntKind.u64.wrap (x7 * 1000000000)) + (IntKind.u64.wrap (rd x0 x8)))) (IntKind.u64.wrap (x1)))) % 4294967296)) (Int.tmod (IntKind.u64.wrap ((IntKind.u64.wrap (x7 * 1000000000)) + (IntKind.u64.wrap (rd x0 x8)))) (IntKind.u64.wrap (x1))) (wrap64 (x8 - 1))) else (none))) else (none)) else (none)) else ((spec_natTrim.f k x6).bind fun t353 => (some (t353, (x7) % 4294967296)))
def spec_natShort.f (k : Nat) (l0 : List Int) (a1 : Int) : Option (List Int × Int) := if 0 ≤ (l0.length : Int) then (if ((l0.length : Int) : Int).toNat ≤ 70368744177664 then (spec_natShort.l0 k l0 a1 (List.replicate ((l0.length : Int) : Int).toNat 0) 0 (wrap64 ((l0.length : Int) - 1))) else (none)) else (none)
theorem spec_natShort.mono_l : ∀ k, (∀ y0 y1 y2 y3 y4, LeO (spec_natShort.l0 k y0 y1 y2 y3 y4) (spec_natShort.l0 (k + 1) y0 y1 y2 y3 y4))
 | 0 => fun _ _ _ _ _ r h => by simp [spec_natShort.l0] at h
 | k + 1 => by
  have ih0 := spec_natShort.mono_l k
  ·intro y0 y1 y2 y3 y4
   unfold spec_natShort.l0
   repeat' first
   | (with_reducible exact ih0 _ _ _ _ _)
   | (with_reducible exact spec_natTrim.mono _ _)
   | (with_reducible exact LeO.refl _)
   | (with_reducible exact LeO.none _)
   | (with_reducible refine LeO.ite ?_ ?_)
   | (with_reducible refine LeO.bind ?_ (fun _ => ?_))
   | exact ih0 _ _ _ _ _
   | exact spec_natTrim.mono _ _
   | exact LeO.none _
   | refine LeO.ite ?_ ?_
   | refine LeO.bind ?_ (fun _ => ?_)
theorem spec_natShort.mono : ∀ a0 a1 k, LeO (spec_natShort.f k a0 a1) (spec_natShort.f (k + 1) a0 a1) := by
 intro a0 a1 k
 have ih0 := spec_natShort.mono_l k
 unfold spec_natShort.f
 repeat' first
   | (with_reducible exact ih0 _ _ _ _ _)
   | (with_reducible exact spec_natTrim.mono _ _)
   | (with_reducible exact LeO.refl _)
   | (with_reducible exact LeO.none _)
   | (with_reducible refine LeO.ite ?_ ?_)
   | (with_reducible refine LeO.bind ?_ (fun _ => ?_))
   | exact ih0 _ _ _ _ _
   | exact spec_natTrim.mono _ _
   | exact LeO.none _
   | refine LeO.ite ?_ ?_
   | refine LeO.bind ?_ (fun _ => ?_)
set_option maxHeartbeats 8000000 in
set_option maxRecDepth 100000 in
theorem spec_natShort.calls (k : Nat) (A0 : Option Addr) (c0 : Nat) (l0 : List Int) (a1 : Int) (r1 : List Int) (r2 : Int) (w : World) (hr0 : Kd.C (Kd.int .u32) w A0 l0.length l0) (hc0 : l0.length ≤ c0) (h : spec_natShort.f k l0 a1 = some (r1, r2)) :
  Calls Tryz.prog 46 #[.slice A0 l0.length c0, .int .u32 a1] w fun e w' => ∃ v0_ : Value, e = .returned (.tuple #[v0_, .int .u32 r2]) ∧ Kd.V (Kd.int .u32) 87 w' w.heap.size (fun k_ => (w.heap.size ≤ k_)) v0_ r1 ∧ Below w.heap.size w w' := by
 have HR0 := Aside0.mk hr0
 have HC0 := Aside0.mk hc0
 clear hr0 hc0
 have HB := Aside0.mk (Below.refl w.heap.size w)
 have H : (if 0 ≤ (l0.length : Int) then (if ((l0.length : Int) : Int).toNat ≤ 70368744177664 then (spec_natShort.l0 k l0 a1 (List.replicate ((l0.length : Int) : Int).toNat 0) 0 (wrap64 ((l0.length : Int) - 1))) else (none)) else (none)) = some (r1, r2) := h
 clear h
 by_cases c3 : 0 ≤ (l0.length : Int)
 ·rw [if_pos c3] at H
  have c3b0 := eq_true c3
  have c3b1 : decide (0 ≤ (l0.length : Int)) = true := decide_eq_true c3
  clear c3
  by_cases c4 : ((l0.length : Int) : Int).toNat ≤ 70368744177664
  ·rw [if_pos c4] at H
   have c4b0 := eq_true c4
   have c4b1 : decide (((l0.length : Int) : Int).toNat ≤ 70368744177664) = true := decide_eq_true c4
   clear c4
   obtain ⟨y348, hy348⟩ : ∃ y_ : List Int, y_ = (List.replicate ((l0.length : Int) : Int).toNat 0) := ⟨_, rfl⟩
   replace H : (spec_natShort.l0 k l0 a1 y348 0 (wrap64 ((l0.length : Int) - 1))) = some (r1, r2) := by first | (rw [hy348]; with_reducible exact H) | (have H2_ := (Option.bind_some _ _).symm.trans H; rw [hy348]; with_reducible exact H2_) | (have H2_ := (Option.bind_some _ _).symm.trans H; with_reducible exact H2_) | with_reducible exact H | (rw [hy348]; exact H) | exact H
   have Ny348 := Aside0.mk hy348
   clear hy348
   have H' := Aside0.mk H
   clear H
   go_enter Tryz.func46, Tryz.ntmps46
   go_wp2_with (first | ((with_reducible refine gate_dst (N := 11) rfl ?_); refine Kd.R_make (Kd.int .u32) _ 87 rfl (N := 11) rfl 27 _ _ rfl (l0.length : Int) rfl rfl Tryz.underlying27 (.int .u32 0) 4 info87 rfl (by decide) (by omega) 0 (ok := fun _ => True) (okp := fun _ => True) rfl (fun _ hk => hk) trivial (of_decide_eq_true (by first | (with_reducible assumption) | assumption)) (Nat.le_trans (Nat.mul_le_mul_right _ (of_decide_eq_true (by first | (with_reducible assumption) | assumption) : (l0.length : Int).toNat ≤ 70368744177664)) (by omega)) (Below.refl _ _) (Nat.le_refl _) ?_; intro v349 w5 ho6 hb hg_ hnew_; clear hg_ hnew_; (first | rw [← Ny348.out] at ho6 | (simp only [Int.reduceToNat] at ho6; rw [← Ny348.out] at ho6)); have n0_ := Aside0.mk (Kd.R_lower (Kd.R_newM (M := fun k_ => (w.heap.size ≤ k_)) ho6 (below_size (by repeat (first | (with_reducible first | exact HB.out | apply below_alloc | apply pw_below_drewN | apply below_drew1) | exact HB.out))) (fun k_ h_ => h_)) (below_size (by repeat (first | (with_reducible first | exact HB.out | apply below_alloc | apply pw_below_drewN | apply below_drew1) | exact HB.out)))); have n1_ := Aside0.mk (below_step (by repeat (first | (with_reducible first | exact HB.out | apply below_alloc | apply pw_below_drewN | apply below_drew1) | exact HB.out)) hb); clear HB; have HO350 := n0_; have HB := n1_; clear n0_ n1_; clear hb ho6))
   go_loopg [7, 8] k (fun kq v7 v8 w' => ∃ (x6_1 : List Int) (x7_1 : Int) (x8_1 : Int), v7 = .int .u64 x7_1 ∧ v8 = .int .i64 x8_1 ∧ Aside0 (spec_natShort.l0 kq l0 a1 x6_1 x7_1 x8_1 = some (r1, r2)) ∧ Aside0 (kq ≤ k) ∧ Aside0 (Kd.R (Kd.int .u32) 87 w' w.heap.size (fun k_ => (w.heap.size ≤ k_)) v349 x6_1) ∧ Aside0 (Below w.heap.size w w'))
   case atStart => exact ⟨(y348), (0), (wrap64 ((l0.length : Int) - 1)), (by first | rfl | (simp; done) | (simp [*]; done)), (by first | rfl | (simp; done) | (simp [*]; done)), H', ⟨Nat.le_refl _⟩, ⟨by (with_reducible repeat (first | apply Kd.R_alloc | apply Kd.R_drewN | apply Kd.R_drew)); exact Kd.R_mono HO350.out (fun _ hk => hk.1)⟩, ⟨by repeat (first | (with_reducible first | exact HB.out | apply below_alloc | apply pw_below_drewN | apply below_drew1) | exact HB.out)⟩⟩
   case round =>
    clear H'
    try clear p2
    try clear c3
    try clear c3b0
    try clear c3b1
    try clear c4
    try clear c4b0
    try clear c4b1
    try clear p6
    obtain ⟨x6_1, x7_1, x8_1, rfl, rfl, HA, HK1, HO_6, HB⟩ := hrel
    cases gk with
    | zero => exact absurd HA.out (by simp [spec_natShort.l0])
    | succ k1 =>
     have H := HA.out
     clear HA
     simp only [spec_natShort.l0] at H
     by_cases c7 : x8_1 ≥ 0
     ·rw [if_pos c7] at H
      have c7b0 : decide (0 ≤ x8_1) = true := decide_eq_true c7
      clear c7
      by_cases c8 : 0 ≤ x8_1
      ·rw [if_pos c8] at H
       have c8b0 : decide (0 ≤ x8_1) = true := decide_eq_true c8
       clear c8
       by_cases c9 : x8_1 < (l0.length : Int)
       ·rw [if_pos c9] at H
        have c9b0 : decide (x8_1 < (l0.length : Int)) = true := decide_eq_true c9
        clear c9
        by_cases c10 : (IntKind.u64.wrap (a1)) = 0
        ·rw [if_pos c10] at H
         exact absurd H (by simp)
        ·rw [if_neg c10] at H
         have c10b0 : ((IntKind.u64.wrap (a1)) == 0) = false := beq_eq_false_iff_ne.mpr c10
         have c10b1 : ((IntKind.u64.wrap (a1)) != 0) = true := bne_iff_ne.mpr c10
         by_cases c11 : x8_1 < (x6_1.length : Int)
         ·rw [if_pos c11] at H
          have c11b0 : decide (x8_1 < (x6_1.length : Int)) = true := decide_eq_true c11
          clear c11
          obtain ⟨y352, hy352⟩ : ∃ y_ : List Int, y_ = (x6_1.set (x8_1 : Int).toNat ((IntKind.u64.wrap (Int.tdiv (IntKind.u64.wrap ((IntKind.u64.wrap (x7_1 * 1000000000)) + (IntKind.u64.wrap (rd l0 x8_1)))) (IntKind.u64.wrap (a1)))) % 4294967296)) := ⟨_, rfl⟩
          replace H : (spec_natShort.l0 k1 l0 a1 y352 (Int.tmod (IntKind.u64.wrap ((IntKind.u64.wrap (x7_1 * 1000000000)) + (IntKind.u64.wrap (rd l0 x8_1)))) (IntKind.u64.wrap (a1))) (wrap64 (x8_1 - 1))) = some (r1, r2) := by first | (rw [hy352]; with_reducible exact H) | (have H2_ := (Option.bind_some _ _).symm.trans H; rw [hy352]; with_reducible exact H2_) | (have H2_ := (Option.bind_some _ _).symm.trans H; with_reducible exact H2_) | with_reducible exact H | (rw [hy352]; exact H) | exact H
          have Ny352 := Aside0.mk hy352
          clear hy352
          have H' := Aside0.mk H
          clear H
          have p351 : 0 ≤ (x8_1 : Int) := of_decide_eq_true (by first | (with_reducible assumption) | assumption)
          have q351 : x8_1 < (l0.length : Int) := of_decide_eq_true (by first | (with_reducible assumption) | assumption)
          obtain ⟨ad351, e351, hx351_0⟩ := Kd.at_int HR0.out x8_1 p351 q351
          cases e351
          replace hx351_0 := (HB.out.cell (World.block_lt_of_cell? w _ hx351_0)).trans hx351_0
          replace p351 := eq_true p351
          replace q351 := eq_true q351
          have p12 : 0 ≤ (x8_1 : Int) := of_decide_eq_true (by first | (with_reducible assumption) | assumption)
          have q12 : (x8_1 : Int) < ((x6_1.length : Int) : Int) := of_decide_eq_true (by first | (with_reducible assumption) | assumption)
          obtain ⟨go12, co12, eo12, gb12, gl12, cl12, HG12⟩ := Kd.R_form HO_6.out (by omega)
          (first | cases eo12 | (injection eo12 with ea_ en_ ec_; (first | subst ea_ | (injection ea_ with ea_; subst ea_)); subst ec_; clear en_))
          have GB12 := Aside0.mk gb12
          have GG12 := Aside0.mk HG12
          clear gb12 gl12 HG12
          obtain ⟨hx12_0, hf12_0⟩ := Kd.R_celln 0 HO_6.out (x8_1 : Int) p12 q12
          replace p12 := eq_true p12
          replace q12 := eq_true q12
          have HP13 := Kd.R_putg HO_6.out (x8_1 : Int) ((IntKind.u64.wrap (Int.tdiv (IntKind.u64.wrap ((IntKind.u64.wrap (x7_1 * 1000000000)) + (IntKind.u64.wrap (rd l0 x8_1)))) (IntKind.u64.wrap (a1)))) % 4294967296)
          go_wp2_with (first | ((with_reducible refine gate_store (t := 87) (p := 34) rfl ?_); refine store_event (t := 87) (p := 34) (v := ?vo_w14) (w1 := (wr.setCell ⟨go12, (x8_1 : Int).toNat, none⟩ (.int .u32 ((IntKind.u64.wrap (Int.tdiv (IntKind.u64.wrap ((IntKind.u64.wrap (x7_1 * 1000000000)) + (IntKind.u64.wrap (rd l0 x8_1)))) (IntKind.u64.wrap (a1)))) % 4294967296)))) ?hg ?ho ?hn ?hr ?_; (case ho => rfl); (case hg => rfl); (case hn => rfl); (case hr => first | (go_simp; done) | (go_simp; rfl)); intro w14 hw; have hg : wr.grownBy w14 (some go12) := (by rw [hw]; exact HP13.2); have hp_ : Kd.R (Kd.int .u32) 87 w14 w.heap.size (fun k_ => (w.heap.size ≤ k_)) (.slice (some ⟨go12, 0, none⟩) x6_1.length co12) y352 := (by rw [hw, Ny352.out]; exact HP13.1); clear HP13; have n0_ := Aside0.mk (hp_); have n1_ := Aside0.mk ((by rw [hw]; exact below_set (HB.out) GB12.out : Below w.heap.size w w14)); clear HO_6; clear HB; have HO_6 := n0_; have HB := n1_; clear n0_ n1_; clear hg hw hp_))
          go_roundg k1
          case measure => have := HK1.out; omega
          case rel => exact ⟨(y352), (Int.tmod (IntKind.u64.wrap ((IntKind.u64.wrap (x7_1 * 1000000000)) + (IntKind.u64.wrap (rd l0 x8_1)))) (IntKind.u64.wrap (a1))), (wrap64 (x8_1 - 1)), (by first | rfl | (simp; done) | (simp [*]; done)), (by first | rfl | (simp; done) | (simp [*]; done)), H', ⟨by have := HK1.out; omega⟩, ⟨by (with_reducible repeat (first | apply Kd.R_alloc | apply Kd.R_drewN | apply Kd.R_drew)); exact HO_6.out⟩, ⟨by repeat (first | (with_reducible first | exact HB.out | apply below_alloc | apply pw_below_drewN | apply below_drew1) | exact HB.out)⟩⟩
         ·rw [if_neg c11] at H
          exact absurd H (by simp)
       ·rw [if_neg c9] at H
        exact absurd H (by simp)
      ·rw [if_neg c8] at H
       exact absurd H (by simp)
     ·rw [if_neg c7] at H
      have c7b0 : decide (0 ≤ x8_1) = false := decide_eq_false c7
      clear c7
      replace H := Option.bind_eq_some_iff.mp H
      obtain ⟨t353, A150, H⟩ := H
      replace H : (some (t353, (x7_1) % 4294967296)) = some (r1, r2) := H
      have A15 := Aside0.mk A150
      clear A150
      simp only [Option.some.injEq, Prod.mk.injEq] at H
      obtain ⟨rfl, rfl⟩ := H
      obtain ⟨Ao16, co16, eo16⟩ := Kd.R_slice HO_6.out
      subst eo16
      go_wp2_with (first | ((with_reducible refine gate_callee (f := 37) rfl ?_); refine goesL_ (some 40) rfl rfl Tryz.func37 (by kernel_rfl) rfl #[.slice Ao16 x6_1.length co16] rfl (by (try simp only [List.map_toArray, List.map_cons, List.map_nil]); first | done | rfl | (simp only [List.length_drop, List.length_take]; rfl)) ?_; (with_reducible refine (spec_natTrim.calls k1 (fun k_ => some k_ = (.slice Ao16 x6_1.length co16 : Value).ownBlock) _ _ x6_1 t353 _ ?side1 A15.out).mono ?_); (case side1 => exact Kd.R_V (Kd.R_tight rfl (HO_6.out))); rintro e w17 ⟨v354, rfl, ho0, hb⟩; refine ⟨_, rfl, ?_⟩; have n0_ := Aside0.mk (Kd.R_below (by (with_reducible repeat (first | apply Kd.R_alloc | apply Kd.R_drewN | apply Kd.R_drew)); exact HO_6.out) hb); have n1_ := Aside0.mk (Kd.V_lower (Kd.V_mono (ok' := fun k_ => (w.heap.size ≤ k_)) ho0 (fun k_ hk_ => Or.elim hk_ (fun hs_ => ((HO_6.out).1 k_ hs_.symm)) (fun hn_ => (Nat.le_trans (below_size (by repeat (first | (with_reducible first | exact HB.out | apply below_alloc | apply pw_below_drewN | apply below_drew1) | exact HB.out))) hn_)))) (below_size (by repeat (first | (with_reducible first | exact HB.out | apply below_alloc | apply pw_below_drewN | apply below_drew1) | exact HB.out)))); have n2_ := Aside0.mk (below_step (by repeat (first | (with_reducible first | exact HB.out | apply below_alloc | apply pw_below_drewN | apply below_drew1) | exact HB.out)) hb); clear HO_6; clear HB; have HO_6 := n0_; have HO355 := n1_; have HB := n2_; clear n0_ n1_ n2_; (try clear hb); (try clear hb2); (try clear hk); (try clear hi); (try clear ho0)))
      go_ret2
      exact ⟨_, by first | rfl | (simp [errW_none, errW_some] <;> rfl) | (simp [*, errW_none, errW_some] <;> rfl), by (with_reducible repeat (first | apply Kd.V_alloc | apply Kd.V_drewN | apply Kd.V_drew)); exact HO355.out, by repeat (first | (with_reducible first | exact HB.out | apply below_alloc | apply pw_below_drewN | apply below_drew1) | exact HB.out)⟩
  ·rw [if_neg c4] at H
   exact absurd H (by simp)
 ·rw [if_neg c3] at H
  exact absurd H (by simp)
end Go.Proofs.YtgamldefngehlaaGreatDoor.PFnVaFieldDecimals
