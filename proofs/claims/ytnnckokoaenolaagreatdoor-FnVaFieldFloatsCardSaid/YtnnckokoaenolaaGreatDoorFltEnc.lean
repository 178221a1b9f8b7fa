/- The encoder's floats. -/
import Derived.Test.YtnnckokoaenolaaGreatDoorIntsEnc
import Derived.Test.YtnnckokoaenolaaGreatDoorFltBits
set_option linter.unusedVariables false
set_option linter.unusedSimpArgs false
namespace Go.Proofs.YtnnckokoaenolaaGreatDoor
open Go.RowKit

set_option maxRecDepth 100000 in
set_option maxHeartbeats 1000000 in
theorem encFloat32 (w : World) (base E S W : Nat) (tr : Value) (xs : List Int) (h : EncAt w base E S W tr xs) (v : Nat) (hv : v < 4294967296) (hl : xs.length ≤ 900000) :
    Calls Tryz.prog 151 #[.pointer (some ⟨E, 0, none⟩), .float .f32 v] w fun e w' =>
      e = .returned (.tuple #[]) ∧ EncAt w' base E S W tr (xs ++ leB v 4) ∧ Below base w w' := by
  have he := h.enc
  have hlo := h.lo
  have c0 : w.cell? ⟨E, 0, none⟩ = some (.pointer (some ⟨W, 0, none⟩)) := by rw [cellOf he]; rfl
  have c1 : w.cell? ⟨E, 1, none⟩ = some (.slice (some ⟨S, 0, none⟩) 4096 4096) := by rw [cellOf he]; rfl
  have hle : leB (v : Int) 4 = leB (v : Int) 4 := rfl
  have hle' := Lib.hid hle; clear hle
  obtain ⟨u0, a0, b0⟩ := h.scrCell 0 (by decide)
  obtain ⟨u1, a1, b1⟩ := h.scrCell 1 (by decide)
  obtain ⟨u2, a2, b2⟩ := h.scrCell 2 (by decide)
  obtain ⟨u3, a3, b3⟩ := h.scrCell 3 (by decide)
  have hP := Lib.hid (put32 w.drew S 4 4096 v hv (by decide) u0 u1 u2 u3 a0 a1 a2 a3 b0 b1 b2 b3)
  obtain ⟨W1, hW1⟩ : ∃ W1, W1 = (w.drew.alloc (.cells #[] 209)).setCells S 0 ((leB v 4).map (Value.int .u8)) := ⟨_, rfl⟩
  have ha : EncAt (w.drew.alloc (.cells #[] 209)) base E S W tr xs := h.drew.keep ((Below.refl _ _).alloc (Nat.le_refl _) _)
  have h1 : EncAt W1 base E S W tr xs := by rw [hW1]; exact ha.setCells _ _
  have hb1 : Below base w W1 := by
    rw [hW1]
    have hz := sizeOf_blk h.enc
    exact ((Below.drew (Below.refl base w)).alloc (by show base ≤ w.heap.size; omega) _).trans (Lib.below_setCells_w (by omega) _ _ _)
  have hy : ∀ j (h : j < (leB v 4).length), W1.cell? ⟨S, 0 + j, none⟩ = some (.int .u8 (leB v 4)[j]) := by
    rw [hW1]
    refine laidAt fun j hj => ?_
    obtain ⟨u, a, _⟩ := ha.scrCell (0 + j) (by simp at hj; omega)
    rw [a]; rfl
  have hP2 := Lib.hid (encWrite W1.drew base E S W tr xs (leB v 4) h1.drew S 0 4 4096 (by simp) hy (by simp; omega))
  have he1 := h1.enc
  have d0 : W1.cell? ⟨E, 0, none⟩ = some (.pointer (some ⟨W, 0, none⟩)) := by rw [cellOf he1]; rfl
  have d1 : W1.cell? ⟨E, 1, none⟩ = some (.slice (some ⟨S, 0, none⟩) 4096 4096) := by rw [cellOf he1]; rfl
  clear a0 a1 a2 a3 b0 b1 b2 b3 hy ha he1 hv
  replace hW1 := Lib.hid hW1
  replace hlo := Lib.hid hlo
  go_enter Tryz.func151, Tryz.ntmps151
  go_wp2
  go_region_with (refine hP.out.mono ?_; rintro e w2 ⟨rfl, hw2⟩; have hw3 := hw2.trans hW1.out.symm; clear hw2; subst hw3)
  all_goals go_wp2_with fail
  all_goals go_region_with (refine hP2.out.mono ?_; rintro e w3 ⟨rfl, h3, hb3⟩)
  all_goals go_wp2
  all_goals go_end0
  all_goals exact ⟨rfl, h3, (Below.drew hb1).trans hb3⟩

set_option maxRecDepth 100000 in
set_option maxHeartbeats 1000000 in
theorem encFloat64 (w : World) (base E S W : Nat) (tr : Value) (xs : List Int) (h : EncAt w base E S W tr xs) (v : Nat) (hv : v < 18446744073709551616) (hl : xs.length ≤ 900000) :
    Calls Tryz.prog 152 #[.pointer (some ⟨E, 0, none⟩), .float .f64 v] w fun e w' =>
      e = .returned (.tuple #[]) ∧ EncAt w' base E S W tr (xs ++ leB v 8) ∧ Below base w w' := by
  have he := h.enc
  have hlo := h.lo
  have c0 : w.cell? ⟨E, 0, none⟩ = some (.pointer (some ⟨W, 0, none⟩)) := by rw [cellOf he]; rfl
  have c1 : w.cell? ⟨E, 1, none⟩ = some (.slice (some ⟨S, 0, none⟩) 4096 4096) := by rw [cellOf he]; rfl
  have hle : leB (v : Int) 8 = leB (v : Int) 8 := rfl
  have hle' := Lib.hid hle; clear hle
  obtain ⟨u0, a0, b0⟩ := h.scrCell 0 (by decide)
  obtain ⟨u1, a1, b1⟩ := h.scrCell 1 (by decide)
  obtain ⟨u2, a2, b2⟩ := h.scrCell 2 (by decide)
  obtain ⟨u3, a3, b3⟩ := h.scrCell 3 (by decide)
  obtain ⟨u4, a4, b4⟩ := h.scrCell 4 (by decide)
  obtain ⟨u5, a5, b5⟩ := h.scrCell 5 (by decide)
  obtain ⟨u6, a6, b6⟩ := h.scrCell 6 (by decide)
  obtain ⟨u7, a7, b7⟩ := h.scrCell 7 (by decide)
  have hP := Lib.hid (put64 w.drew S 8 4096 v hv (by decide) u0 u1 u2 u3 u4 u5 u6 u7 a0 a1 a2 a3 a4 a5 a6 a7 b0 b1 b2 b3 b4 b5 b6 b7)
  obtain ⟨W1, hW1⟩ : ∃ W1, W1 = (w.drew.alloc (.cells #[] 209)).setCells S 0 ((leB v 8).map (Value.int .u8)) := ⟨_, rfl⟩
  have ha : EncAt (w.drew.alloc (.cells #[] 209)) base E S W tr xs := h.drew.keep ((Below.refl _ _).alloc (Nat.le_refl _) _)
  have h1 : EncAt W1 base E S W tr xs := by rw [hW1]; exact ha.setCells _ _
  have hb1 : Below base w W1 := by
    rw [hW1]
    have hz := sizeOf_blk h.enc
    exact ((Below.drew (Below.refl base w)).alloc (by show base ≤ w.heap.size; omega) _).trans (Lib.below_setCells_w (by omega) _ _ _)
  have hy : ∀ j (h : j < (leB v 8).length), W1.cell? ⟨S, 0 + j, none⟩ = some (.int .u8 (leB v 8)[j]) := by
    rw [hW1]
    refine laidAt fun j hj => ?_
    obtain ⟨u, a, _⟩ := ha.scrCell (0 + j) (by simp at hj; omega)
    rw [a]; rfl
  have hP2 := Lib.hid (encWrite W1.drew base E S W tr xs (leB v 8) h1.drew S 0 8 4096 (by simp) hy (by simp; omega))
  have he1 := h1.enc
  have d0 : W1.cell? ⟨E, 0, none⟩ = some (.pointer (some ⟨W, 0, none⟩)) := by rw [cellOf he1]; rfl
  have d1 : W1.cell? ⟨E, 1, none⟩ = some (.slice (some ⟨S, 0, none⟩) 4096 4096) := by rw [cellOf he1]; rfl
  clear a0 a1 a2 a3 a4 a5 a6 a7 b0 b1 b2 b3 b4 b5 b6 b7 hy ha he1 hv
  replace hW1 := Lib.hid hW1
  replace hlo := Lib.hid hlo
  go_enter Tryz.func152, Tryz.ntmps152
  go_wp2
  go_region_with (refine hP.out.mono ?_; rintro e w2 ⟨rfl, hw2⟩; have hw3 := hw2.trans hW1.out.symm; clear hw2; subst hw3)
  all_goals go_wp2_with fail
  all_goals go_region_with (refine hP2.out.mono ?_; rintro e w3 ⟨rfl, h3, hb3⟩)
  all_goals go_wp2
  all_goals go_end0
  all_goals exact ⟨rfl, h3, (Below.drew hb1).trans hb3⟩
end Go.Proofs.YtnnckokoaenolaaGreatDoor
