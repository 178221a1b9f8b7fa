/- The law of nulls: its walk. -/
import Derived.Test.YtnnckokoaenolaaGreatDoorNulls
import Derived.Test.YtnnckokoaenolaaGreatDoorLawBools
set_option linter.unusedVariables false
set_option linter.unusedSimpArgs false
namespace Go.Proofs.YtnnckokoaenolaaGreatDoor
open Go.RowKit

set_option maxRecDepth 100000 in
set_option maxHeartbeats 2000000 in
theorem lawNulls (w : World) (c : Int) (h0 : 0 ≤ c) (h1 : c ≤ 255) : Calls Tryz.prog 4 #[.int .u8 c] w fun e w' => e = .returned (.bool true) ∧ Below w.heap.size w w' := by
  have hw : IntKind.i64.wrap c = c := by simp [IntKind.wrap, IntKind.bits, IntKind.signed]; omega
  go_enter Tryz.func4, Tryz.ntmps4
  go_wp2_with fail
  refine (codeData_any c h0 h1 _).mono ?_
  rintro e w1 ⟨x, f, rfl, hb1⟩
  by_cases hs : f ≠ 0 ∨ c = 28
  · have hs' : ¬ (f = 0 ∧ ¬ c = 28) := by omega
    go_wp2_with fail
    all_goals go_ret
    all_goals exact ⟨by simp, hb1⟩
  have hf : f = 0 := by omega
  have hc : ¬ c = 28 := by omega
  subst hf
  go_wp2_with fail
  refine (codeKinds_any c hc h0 h1 _).mono ?_
  rintro e w2 ⟨b1, b2, b3, n, rfl, rfl⟩
  go_wp2_with fail
  refine (fbNull _ c hc h0 h1).mono ?_
  rintro e w3 ⟨v, rfl, ho, hb3⟩
  have hr := nullCode_range h0 h1
  have hbw3 : Below w.heap.size w w3 := hb1.trans (hb3.mono hb1.size)
  obtain ⟨g, cc, rfl, hg, hgl, hin⟩ := Input.of_row ho (by decide)
  clear ho hg
  go_wp2_with fail
  refine (foNull w3 c _ hr.1 hr.2 h0 h1 g 0 cc hin hgl).mono ?_
  rintro e w4 ⟨rfl, hb4⟩
  have hin4 := hin.below hb4 hgl
  have hgl4 : g < w4.heap.size := Nat.lt_of_lt_of_le hgl hb4.size
  have hbw4 := hbw3.trans (hb4.mono hbw3.size)
  have q6 : (w4.alloc (.cells noVal 34)).heap[w4.heap.size]? = some (.cells noVal 34 (0, 0)) := blk_new _ _
  obtain ⟨W5, hW5⟩ : ∃ W, W = (w4.alloc (.cells noVal 34)).setRow w4.heap.size noVal := ⟨_, rfl⟩
  have q7 : W5.heap[w4.heap.size]? = some (.cells noVal 34 (0, 0)) := by rw [hW5]; exact setRow_heap _ _ _ _ _ _ q6
  have b5 : Below w4.heap.size w4 W5 := by rw [hW5]; exact below_setRow ((Below.refl _ w4).alloc (Nat.le_refl _) _) (Nat.le_refl _) _
  replace hW5 := Lib.hid hW5
  go_wp2_with (refine store_valW rfl (.tmp 14) (.tmp 55) rfl _ rfl noVal rfl noVal q6 rfl rfl (plain1 0 false 0 0 none 0 0) W5 hW5.out ?_)
  refine (fbNull _ 1 (by decide) (by decide) (by decide)).mono ?_
  rintro e w6 ⟨v6, rfl, ho6, hb6⟩
  have q8 := (hb6.block _ (sizeOf_blk q7)).trans q7
  have hin6 := (hin4.below b5 hgl4).below hb6 (Nat.lt_of_lt_of_le hgl4 b5.size)
  obtain ⟨g6, c6, rfl, _, _, _⟩ := Input.of_row ho6 (by decide)
  have k0 := hin6.cell 0 (by simp)
  have k1 : w6.cell? ⟨w4.heap.size, 0, none⟩ = some (.int .i64 0) := cellOf q8 0
  simp only [Nat.add_zero, List.getElem_cons_zero] at k0
  have hw2 : IntKind.i64.wrap (nullCode c) = nullCode c := by simp [IntKind.wrap, IntKind.bits, IntKind.signed]; omega
  go_wp2_with fail
  go_ret
  exact ⟨by simp, (hbw4.trans (b5.mono hbw4.size)).trans (hb6.mono (Nat.le_trans hbw4.size b5.size))⟩
end Go.Proofs.YtnnckokoaenolaaGreatDoor
