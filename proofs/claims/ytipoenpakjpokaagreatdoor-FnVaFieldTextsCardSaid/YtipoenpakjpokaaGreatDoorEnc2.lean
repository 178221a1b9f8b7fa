/- The encoder is made. -/
import Derived.Test.YtipoenpakjpokaaGreatDoorEnc1
set_option linter.unusedVariables false
set_option linter.unusedSimpArgs false
namespace Go.Proofs.YtipoenpakjpokaaGreatDoor
open Go.RowKit

/-- The scratch row when it is made. -/
def zeros4k : Array Value := madeCells #[.int .u8 0] 4096
theorem zeros4k_size : zeros4k.size = 4096 := by simp [zeros4k, madeCells]
theorem zeros4k_list : zeros4k.toList.toArray = zeros4k := Array.toArray_toList
theorem make4k (W : World) : (Instr.makeSlice 22 (.int .i64 4096) (.int .i64 4096)).run Tryz.prog W = .ok (.slice (some ⟨W.heap.size, 0, none⟩) 4096 4096) (W.alloc (.cells zeros4k 5)) :=
  run_make_row' 22 5 (.int .u8 0) 1 Tryz.underlying22 Tryz.info5 rfl .i64 .i64 4096 (by decide) (by decide) W

attribute [irreducible] zeros4k

/-- The encoder's transformer. -/
def TrE (tr : Value) : Prop := ∃ a, tr = .iface 108 (.pointer (some a))
set_option maxRecDepth 100000 in
theorem encoder_any (w : World) (base W : Nat) (hW : w.heap[W]? = some (.cells #[.slice none 0 0] 46 (0, 0))) (hbW : base ≤ W) :
    Calls Tryz.prog 10 #[.pointer (some ⟨W, 0, none⟩)] w fun e w' =>
      ∃ E S tr, e = .returned (.pointer (some ⟨E, 0, none⟩)) ∧ TrE tr ∧ EncAt w' base E S W tr [] ∧ Below w.heap.size w w' := by
  have hmk := make4k
  have hlW := sizeOf_blk hW
  go_enter Tryz.func10, Tryz.ntmps10
  go_wp2
  go_ret
  refine ⟨w.heap.size + 1 + 1, w.heap.size + 1, .iface 108 (.pointer (some ⟨w.heap.size, 0, none⟩)), rfl, ⟨_, rfl⟩, ⟨blk_new' _ _ _ (by simp), ⟨zeros4k, zeros4k_size, blk_alloc (blk_new' _ _ _ (by simp)) _⟩, ⟨.slice none 0 0, ⟨blk_alloc (blk_alloc (blk_alloc hW _) _) _, by simp, .inl ⟨rfl, rfl⟩⟩, by simp [Value.ownBlock]⟩, ⟨by omega, by omega, hbW⟩, ⟨w.heap.size, rfl, blk_alloc (blk_alloc (blk_new _ _) _) _⟩⟩, ?_⟩
  exact (((Below.refl _ _).alloc (Nat.le_refl _) _).alloc (by simp) _).alloc (by simp; omega) _
end Go.Proofs.YtipoenpakjpokaaGreatDoor
