/- Texts: strings of rows, whether nil or not. -/
import Derived.Test.YtipoenpakjpokaaGreatDoorTxtH
set_option linter.unusedVariables false
set_option linter.unusedSimpArgs false
namespace Go.Proofs.YtipoenpakjpokaaGreatDoor
open Go.RowKit

theorem conv_nil (w : World) : (convert 22 9 (.slice none 0 0)).run Tryz.prog w = .ok (.string (strOfNums [])) w := by kernel_rfl

theorem conv_any {w : World} {base n : Nat} {A : Option Addr} {m c : Nat} {bs : List Int} (h : w.ownsRow base 5 1 (.slice A m c) n (u8s bs)) :
    (convert 22 9 (.slice A m c)).run Tryz.prog w = .ok (.string (strOfNums bs)) w := by
  have h0 := h
  obtain ⟨hl, ⟨hv, hn⟩ | ⟨g, cap, cur, hv, _⟩⟩ := h
  · simp only [Value.slice.injEq] at hv
    obtain ⟨rfl, rfl, rfl⟩ := hv
    subst hn
    obtain rfl : bs = [] := List.eq_nil_of_length_eq_zero (by simpa using hl)
    exact conv_nil w
  · simp only [Value.slice.injEq] at hv
    obtain ⟨rfl, rfl, rfl⟩ := hv
    exact conv_input (Input.of_row0 h0).2.2

theorem numsOf_str (ts : List Int) (hu : ∀ x ∈ ts, 0 ≤ x ∧ x ≤ 255) : numsOf (strOfNums ts) = ts := by
  have e : numsOf (strOfNums ts) = ts.map fun n => ((UInt8.ofNat n.toNat).toNat : Int) := by
    simp [numsOf, strOfNums_data, List.map_map, Function.comp_def]
  rw [e]
  conv => rhs; rw [← List.map_id ts]
  refine List.map_congr_left fun x hx => ?_
  obtain ⟨a, b⟩ := hu x hx
  simp
  omega
end Go.Proofs.YtipoenpakjpokaaGreatDoor
