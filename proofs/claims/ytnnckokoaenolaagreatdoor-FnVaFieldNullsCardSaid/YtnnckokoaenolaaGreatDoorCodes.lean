/- The small functions on type codes; impl.CodeData, impl.CodeKinds. -/
import Derived.Test.YtnnckokoaenolaaGreatDoorFoCore
import Derived.Recover
set_option linter.unusedVariables false
set_option linter.unusedSimpArgs false
namespace Go.Proofs.YtnnckokoaenolaaGreatDoor
open Go.RowKit

/-- The code for null of a type code. -/
def nullCode (c : Int) : Int := if c = 64 then 176 else bits .or .u8 c 128
theorem or128 : ∀ n : Fin 256, 128 ≤ bits .or .u8 (n.val : Int) 128 ∧ bits .or .u8 (n.val : Int) 128 ≤ 255 := by decide +kernel
theorem nullCode_range {c : Int} (h0 : 0 ≤ c) (h1 : c ≤ 255) : 128 ≤ nullCode c ∧ nullCode c ≤ 255 := by
  unfold nullCode
  split
  · omega
  · have := or128 ⟨c.toNat, by omega⟩
    rwa [show ((⟨c.toNat, by omega⟩ : Fin 256).val : Int) = c by show ((c.toNat : Nat) : Int) = c; omega] at this

theorem encTc_any (c : Int) (w : World) : Calls Tryz.prog 61 #[.int .u8 c] w fun e w' => ∃ n, e = .returned (.int .u8 n) ∧ w = w' := by
  go_enter Tryz.func61, Tryz.ntmps61
  go_wp2
  all_goals go_ret
  all_goals exact ⟨_, rfl, rfl⟩
theorem supportNull_any (c : Int) (hc : c ≠ 28) (w : World) : Calls Tryz.prog 59 #[.int .u8 c] w fun e w' => e = .returned (.bool true) ∧ w = w' := by
  go_enter Tryz.func59, Tryz.ntmps59
  go_wp2
  all_goals go_ret
  all_goals exact ⟨by simp [hc], rfl⟩
theorem nullValue_any (c : Int) (w : World) : Calls Tryz.prog 60 #[.int .u8 c] w fun e w' => e = .returned (.int .u8 (nullCode c)) ∧ w = w' := by
  unfold nullCode
  go_enter Tryz.func60, Tryz.ntmps60
  go_wp2
  all_goals go_ret
  all_goals exact ⟨by simp_all, rfl⟩
set_option maxRecDepth 100000 in
theorem isLob_any (c : Int) (w : World) : Calls Tryz.prog 56 #[.int .u8 c] w fun e w' => ∃ b, e = .returned (.bool b) ∧ w = w' := by
  go_enter Tryz.func56, Tryz.ntmps56
  go_wp2
  all_goals go_ret
  all_goals exact ⟨_, rfl, rfl⟩
set_option maxRecDepth 100000 in
theorem isVar_any (c : Int) (w : World) : Calls Tryz.prog 57 #[.int .u8 c] w fun e w' => ∃ b, e = .returned (.bool b) ∧ w = w' := by
  go_enter Tryz.func57, Tryz.ntmps57
  go_wp2
  all_goals go_ret
  all_goals exact ⟨_, rfl, rfl⟩
set_option maxRecDepth 100000 in
theorem isDec_any (c : Int) (w : World) : Calls Tryz.prog 58 #[.int .u8 c] w fun e w' => ∃ b, e = .returned (.bool b) ∧ w = w' := by
  go_enter Tryz.func58, Tryz.ntmps58
  go_wp2
  all_goals go_ret
  all_goals exact ⟨_, rfl, rfl⟩

set_option maxRecDepth 100000 in
set_option maxHeartbeats 2000000 in
/-- A type code has a data type, or it panics. -/
theorem dataType_any (c : Int) (w : World) : Calls Tryz.prog 55 #[.int .u8 c] w fun e w' =>
    ((∃ n, e = .returned (.int .u8 n)) ∨ (∃ v, e = .panicked [{ v := .iface 9 v, recovered := false }])) ∧ w = w' := by
  go_enter Tryz.func55, Tryz.ntmps55
  go_wp2
  all_goals first
    | (go_ret; exact ⟨.inl ⟨_, rfl⟩, rfl⟩)
    | exact ⟨rfl, .inr ⟨_, rfl⟩, rfl⟩

/-- CodeData's closure: nothing to recover; a panic of a text's own, recovered. -/
theorem cdIdle (p q : Value) (w : World) : CallsD Tryz.prog 33 #[p, q] .returning w fun e u' w' => e = .returned (.tuple #[]) ∧ u' = .returning ∧ w = w' := by
  refine callsD_of_wpS Tryz.func33 rfl fun c₀ cs hu => ?_
  apply wpS_seq
  apply wpS_region
  simp [wpOpsS, go_sem, recoverD, hu, Tryz.ntmps33, Exit.thenS]
  refine wpS_cond (t := false) (by simp [Act.eval, Array.replicate]) ?_
  simp only [Bool.false_eq_true, if_false]
  refine wpS_of_wp (wp_skip ?_)
  cases c₀
  simp_all [bodyPostS, results, Tryz.results33]
theorem cdCatch (p q : Addr) (x y : Int) (u : TypeId) (pv : Value) (older : List PanicEntry) (w : World) (hp : w.cell? p = some (.int .i64 x)) (hfp : w.frozen? p = false) (hq : w.cell? q = some (.int .i64 y)) (hfq : w.frozen? q = false) (hpq : p ≠ q) :
    CallsD Tryz.prog 33 #[.pointer (some p), .pointer (some q)] (.panicking ({ v := .iface u pv, recovered := false } :: older)) w fun e u' w' =>
      e = .returned (.tuple #[]) ∧ u' = .panicking ({ v := .iface u pv, recovered := true } :: older) ∧ (w.setCell p (.int .i64 0)).setCell q (.int .i64 2) = w' := by
  have hq1 : (w.setCell p (.int .i64 0)).cell? q = some (.int .i64 y) := by rw [World.cell?_setCell_other _ _ _ _ hpq]; exact hq
  have hf1 : (w.setCell p (.int .i64 0)).frozen? q = false := by simpa using hfq
  refine callsD_of_wpS Tryz.func33 rfl fun c₀ cs hu => ?_
  apply wpS_seq
  apply wpS_region
  simp [wpOpsS, go_sem, recoverD, hu, Tryz.ntmps33, Exit.thenS]
  refine wpS_cond (t := true) (by simp [Act.eval, Array.replicate]) ?_
  simp only [if_true]
  apply wpS_region
  simp [wpOpsS, go_sem, hp, hfp, hq1, hf1, bodyPostS, results, Tryz.results33]
end Go.Proofs.YtnnckokoaenolaaGreatDoor
