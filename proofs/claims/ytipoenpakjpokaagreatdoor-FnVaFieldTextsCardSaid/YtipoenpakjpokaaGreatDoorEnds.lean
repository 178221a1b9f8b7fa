/- encoding/binary's little endian at 2, 4, 8 bytes. -/
import Derived.Test.YtipoenpakjpokaaGreatDoorBase
import Derived.Lib.EndianBits
import Derived.Stop.LaidErr
import Derived.RowKit3
import Derived.RegionTactic
import Derived.Deep.Draws
import Derived.Laws.IdiomCopy
import Derived.Lib.EndianMore
set_option linter.unusedVariables false
set_option linter.unusedSimpArgs false
namespace Go.Proofs.YtipoenpakjpokaaGreatDoor
open Go.RowKit

/-- The k lowest bytes of n, the lowest first. -/
def leB (n : Int) : Nat → List Int
  | 0 => []
  | k + 1 => n % 256 :: leB (n / 256) k
@[simp] theorem leB_length (n : Int) (k : Nat) : (leB n k).length = k := by
  induction k generalizing n with
  | zero => rfl
  | succ k ih => simp [leB, ih]

set_option maxHeartbeats 8000000 in
set_option maxRecDepth 100000 in
theorem put16 (w : World) (g n c v : Nat) (hv : v < 65536) (hn : 2 ≤ n) (x0 x1 : Value) (c0 : w.cell? ⟨g, 0, none⟩ = some x0) (c1 : w.cell? ⟨g, 1, none⟩ = some x1) (f0 : w.frozen? ⟨g, 0, none⟩ = false) (f1 : w.frozen? ⟨g, 1, none⟩ = false) :
    Calls Tryz.prog 89 #[.agg #[], .slice (some ⟨g, 0, none⟩) n c, .int .u16 v] w fun e w' => e = .returned (.tuple #[]) ∧
      w' = (w.alloc (.cells #[] 151)).setCells g 0 ((leB v 2).map (Value.int .u8)) := by
  have d0 := cell?_alloc_old (.cells #[] 151) c0
  have fa0 := (frozen?_alloc_cells w #[] 151 ⟨g, 0, none⟩).trans f0
  have d1 := cell?_alloc_old (.cells #[] 151) c1
  have fa1 := (frozen?_alloc_cells w #[] 151 ⟨g, 1, none⟩).trans f1
  have hb : (leB v 2).map (Value.int .u8) = [Value.int .u8 ((v : Int) % 256), Value.int .u8 ((v : Int) / 256)] := by
    have e0 : (v : Int) % 256 = (v : Int) % 256 := by omega
    have e1 : (v : Int) / 256 % 256 = (v : Int) / 256 := by omega
    simp only [leB, List.map, e0, e1]
  go_enter Tryz.func89, Tryz.ntmps89
  go_wp2
  go_end0
  refine ⟨rfl, ?_⟩
  rw [hb]
  rfl

set_option maxHeartbeats 8000000 in
set_option maxRecDepth 100000 in
theorem get16 (w : World) (g o n c : Nat) (hn : 2 ≤ n) (b0 b1 : Int) (h0 : 0 ≤ b0 ∧ b0 < 256) (h1 : 0 ≤ b1 ∧ b1 < 256) (c0 : w.cell? ⟨g, o, none⟩ = some (.int .u8 b0)) (c1 : w.cell? ⟨g, o + 1, none⟩ = some (.int .u8 b1)) :
    Calls Tryz.prog 188 #[.agg #[], .slice (some ⟨g, o, none⟩) n c] w fun e w' => e = .returned (.int .u16 (b0 + b1 * 256)) ∧ Below w.heap.size w w' := by
  have d0 := cell?_alloc_old (.cells #[] 151) c0
  have d1 := cell?_alloc_old (.cells #[] 151) c1
  have q0 : 0 < n := by omega
  have q1 : (1 : Int) < (n : Int) := by omega
  obtain ⟨l0, u0⟩ := h0
  obtain ⟨l1, u1⟩ := h1
  go_enter Tryz.func188, Tryz.ntmps188
  go_wp2
  go_quiet (fail)
  go_wp2
  go_ret
  refine ⟨?_, ((Below.refl _ w).alloc (Nat.le_refl _) _).trans ⟨rfl, rfl, rfl, Nat.le_refl _, fun _ _ => rfl⟩⟩
  show Ending.returned (Value.int _ _) = _
  first | rfl | (simp (disch := omega) only [u16_wrap_id, u16_or8]) | (simp (disch := omega) only [u16_wrap_id, u16_or8]; rfl)

set_option maxHeartbeats 8000000 in
set_option maxRecDepth 100000 in
theorem put32 (w : World) (g n c v : Nat) (hv : v < 4294967296) (hn : 4 ≤ n) (x0 x1 x2 x3 : Value) (c0 : w.cell? ⟨g, 0, none⟩ = some x0) (c1 : w.cell? ⟨g, 1, none⟩ = some x1) (c2 : w.cell? ⟨g, 2, none⟩ = some x2) (c3 : w.cell? ⟨g, 3, none⟩ = some x3) (f0 : w.frozen? ⟨g, 0, none⟩ = false) (f1 : w.frozen? ⟨g, 1, none⟩ = false) (f2 : w.frozen? ⟨g, 2, none⟩ = false) (f3 : w.frozen? ⟨g, 3, none⟩ = false) :
    Calls Tryz.prog 91 #[.agg #[], .slice (some ⟨g, 0, none⟩) n c, .int .u32 v] w fun e w' => e = .returned (.tuple #[]) ∧
      w' = (w.alloc (.cells #[] 151)).setCells g 0 ((leB v 4).map (Value.int .u8)) := by
  have d0 := cell?_alloc_old (.cells #[] 151) c0
  have fa0 := (frozen?_alloc_cells w #[] 151 ⟨g, 0, none⟩).trans f0
  have d1 := cell?_alloc_old (.cells #[] 151) c1
  have fa1 := (frozen?_alloc_cells w #[] 151 ⟨g, 1, none⟩).trans f1
  have d2 := cell?_alloc_old (.cells #[] 151) c2
  have fa2 := (frozen?_alloc_cells w #[] 151 ⟨g, 2, none⟩).trans f2
  have d3 := cell?_alloc_old (.cells #[] 151) c3
  have fa3 := (frozen?_alloc_cells w #[] 151 ⟨g, 3, none⟩).trans f3
  have hb : (leB v 4).map (Value.int .u8) = [Value.int .u8 ((v : Int) % 256), Value.int .u8 ((v : Int) / 256 % 256), Value.int .u8 ((v : Int) / 65536 % 256), Value.int .u8 ((v : Int) / 16777216)] := by
    have e0 : (v : Int) % 256 = (v : Int) % 256 := by omega
    have e1 : (v : Int) / 256 % 256 = (v : Int) / 256 % 256 := by omega
    have e2 : (v : Int) / 256 / 256 % 256 = (v : Int) / 65536 % 256 := by omega
    have e3 : (v : Int) / 256 / 256 / 256 % 256 = (v : Int) / 16777216 := by omega
    simp only [leB, List.map, e0, e1, e2, e3]
  go_enter Tryz.func91, Tryz.ntmps91
  go_wp2
  go_end0
  refine ⟨rfl, ?_⟩
  rw [hb]
  rfl

set_option maxHeartbeats 8000000 in
set_option maxRecDepth 100000 in
theorem get32 (w : World) (g o n c : Nat) (hn : 4 ≤ n) (b0 b1 b2 b3 : Int) (h0 : 0 ≤ b0 ∧ b0 < 256) (h1 : 0 ≤ b1 ∧ b1 < 256) (h2 : 0 ≤ b2 ∧ b2 < 256) (h3 : 0 ≤ b3 ∧ b3 < 256) (c0 : w.cell? ⟨g, o, none⟩ = some (.int .u8 b0)) (c1 : w.cell? ⟨g, o + 1, none⟩ = some (.int .u8 b1)) (c2 : w.cell? ⟨g, o + 2, none⟩ = some (.int .u8 b2)) (c3 : w.cell? ⟨g, o + 3, none⟩ = some (.int .u8 b3)) :
    Calls Tryz.prog 189 #[.agg #[], .slice (some ⟨g, o, none⟩) n c] w fun e w' => e = .returned (.int .u32 (b0 + b1 * 256 + b2 * 65536 + b3 * 16777216)) ∧ Below w.heap.size w w' := by
  have d0 := cell?_alloc_old (.cells #[] 151) c0
  have d1 := cell?_alloc_old (.cells #[] 151) c1
  have d2 := cell?_alloc_old (.cells #[] 151) c2
  have d3 := cell?_alloc_old (.cells #[] 151) c3
  have q0 : 0 < n := by omega
  have q1 : (1 : Int) < (n : Int) := by omega
  have q2 : (2 : Int) < (n : Int) := by omega
  have q3 : (3 : Int) < (n : Int) := by omega
  obtain ⟨l0, u0⟩ := h0
  obtain ⟨l1, u1⟩ := h1
  obtain ⟨l2, u2⟩ := h2
  obtain ⟨l3, u3⟩ := h3
  go_enter Tryz.func189, Tryz.ntmps189
  go_wp2
  go_quiet (fail)
  go_wp2
  go_ret
  refine ⟨?_, ((Below.refl _ w).alloc (Nat.le_refl _) _).trans ⟨rfl, rfl, rfl, Nat.le_refl _, fun _ _ => rfl⟩⟩
  show Ending.returned (Value.int _ _) = _
  first | rfl | (simp (disch := omega) only [u32_wrap_id, u32_or8, u32_or16, u32_or24]) | (simp (disch := omega) only [u32_wrap_id, u32_or8, u32_or16, u32_or24]; rfl)

set_option maxHeartbeats 8000000 in
set_option maxRecDepth 100000 in
theorem put64 (w : World) (g n c v : Nat) (hv : v < 18446744073709551616) (hn : 8 ≤ n) (x0 x1 x2 x3 x4 x5 x6 x7 : Value) (c0 : w.cell? ⟨g, 0, none⟩ = some x0) (c1 : w.cell? ⟨g, 1, none⟩ = some x1) (c2 : w.cell? ⟨g, 2, none⟩ = some x2) (c3 : w.cell? ⟨g, 3, none⟩ = some x3) (c4 : w.cell? ⟨g, 4, none⟩ = some x4) (c5 : w.cell? ⟨g, 5, none⟩ = some x5) (c6 : w.cell? ⟨g, 6, none⟩ = some x6) (c7 : w.cell? ⟨g, 7, none⟩ = some x7) (f0 : w.frozen? ⟨g, 0, none⟩ = false) (f1 : w.frozen? ⟨g, 1, none⟩ = false) (f2 : w.frozen? ⟨g, 2, none⟩ = false) (f3 : w.frozen? ⟨g, 3, none⟩ = false) (f4 : w.frozen? ⟨g, 4, none⟩ = false) (f5 : w.frozen? ⟨g, 5, none⟩ = false) (f6 : w.frozen? ⟨g, 6, none⟩ = false) (f7 : w.frozen? ⟨g, 7, none⟩ = false) :
    Calls Tryz.prog 165 #[.agg #[], .slice (some ⟨g, 0, none⟩) n c, .int .u64 v] w fun e w' => e = .returned (.tuple #[]) ∧
      w' = (w.alloc (.cells #[] 151)).setCells g 0 ((leB v 8).map (Value.int .u8)) := by
  have d0 := cell?_alloc_old (.cells #[] 151) c0
  have fa0 := (frozen?_alloc_cells w #[] 151 ⟨g, 0, none⟩).trans f0
  have d1 := cell?_alloc_old (.cells #[] 151) c1
  have fa1 := (frozen?_alloc_cells w #[] 151 ⟨g, 1, none⟩).trans f1
  have d2 := cell?_alloc_old (.cells #[] 151) c2
  have fa2 := (frozen?_alloc_cells w #[] 151 ⟨g, 2, none⟩).trans f2
  have d3 := cell?_alloc_old (.cells #[] 151) c3
  have fa3 := (frozen?_alloc_cells w #[] 151 ⟨g, 3, none⟩).trans f3
  have d4 := cell?_alloc_old (.cells #[] 151) c4
  have fa4 := (frozen?_alloc_cells w #[] 151 ⟨g, 4, none⟩).trans f4
  have d5 := cell?_alloc_old (.cells #[] 151) c5
  have fa5 := (frozen?_alloc_cells w #[] 151 ⟨g, 5, none⟩).trans f5
  have d6 := cell?_alloc_old (.cells #[] 151) c6
  have fa6 := (frozen?_alloc_cells w #[] 151 ⟨g, 6, none⟩).trans f6
  have d7 := cell?_alloc_old (.cells #[] 151) c7
  have fa7 := (frozen?_alloc_cells w #[] 151 ⟨g, 7, none⟩).trans f7
  have hb : (leB v 8).map (Value.int .u8) = [Value.int .u8 ((v : Int) % 256), Value.int .u8 ((v : Int) / 256 % 256), Value.int .u8 ((v : Int) / 65536 % 256), Value.int .u8 ((v : Int) / 16777216 % 256), Value.int .u8 ((v : Int) / 4294967296 % 256), Value.int .u8 ((v : Int) / 1099511627776 % 256), Value.int .u8 ((v : Int) / 281474976710656 % 256), Value.int .u8 ((v : Int) / 72057594037927936)] := by
    have e0 : (v : Int) % 256 = (v : Int) % 256 := by omega
    have e1 : (v : Int) / 256 % 256 = (v : Int) / 256 % 256 := by omega
    have e2 : (v : Int) / 256 / 256 % 256 = (v : Int) / 65536 % 256 := by omega
    have e3 : (v : Int) / 256 / 256 / 256 % 256 = (v : Int) / 16777216 % 256 := by omega
    have e4 : (v : Int) / 256 / 256 / 256 / 256 % 256 = (v : Int) / 4294967296 % 256 := by omega
    have e5 : (v : Int) / 256 / 256 / 256 / 256 / 256 % 256 = (v : Int) / 1099511627776 % 256 := by omega
    have e6 : (v : Int) / 256 / 256 / 256 / 256 / 256 / 256 % 256 = (v : Int) / 281474976710656 % 256 := by omega
    have e7 : (v : Int) / 256 / 256 / 256 / 256 / 256 / 256 / 256 % 256 = (v : Int) / 72057594037927936 := by omega
    simp only [leB, List.map, e0, e1, e2, e3, e4, e5, e6, e7]
  go_enter Tryz.func165, Tryz.ntmps165
  go_wp2
  go_end0
  refine ⟨rfl, ?_⟩
  rw [hb]
  rfl

set_option maxHeartbeats 8000000 in
set_option maxRecDepth 100000 in
theorem get64 (w : World) (g o n c : Nat) (hn : 8 ≤ n) (b0 b1 b2 b3 b4 b5 b6 b7 : Int) (h0 : 0 ≤ b0 ∧ b0 < 256) (h1 : 0 ≤ b1 ∧ b1 < 256) (h2 : 0 ≤ b2 ∧ b2 < 256) (h3 : 0 ≤ b3 ∧ b3 < 256) (h4 : 0 ≤ b4 ∧ b4 < 256) (h5 : 0 ≤ b5 ∧ b5 < 256) (h6 : 0 ≤ b6 ∧ b6 < 256) (h7 : 0 ≤ b7 ∧ b7 < 256) (c0 : w.cell? ⟨g, o, none⟩ = some (.int .u8 b0)) (c1 : w.cell? ⟨g, o + 1, none⟩ = some (.int .u8 b1)) (c2 : w.cell? ⟨g, o + 2, none⟩ = some (.int .u8 b2)) (c3 : w.cell? ⟨g, o + 3, none⟩ = some (.int .u8 b3)) (c4 : w.cell? ⟨g, o + 4, none⟩ = some (.int .u8 b4)) (c5 : w.cell? ⟨g, o + 5, none⟩ = some (.int .u8 b5)) (c6 : w.cell? ⟨g, o + 6, none⟩ = some (.int .u8 b6)) (c7 : w.cell? ⟨g, o + 7, none⟩ = some (.int .u8 b7)) :
    Calls Tryz.prog 190 #[.agg #[], .slice (some ⟨g, o, none⟩) n c] w fun e w' => e = .returned (.int .u64 (b0 + b1 * 256 + b2 * 65536 + b3 * 16777216 + b4 * 4294967296 + b5 * 1099511627776 + b6 * 281474976710656 + b7 * 72057594037927936)) ∧ Below w.heap.size w w' := by
  have d0 := cell?_alloc_old (.cells #[] 151) c0
  have d1 := cell?_alloc_old (.cells #[] 151) c1
  have d2 := cell?_alloc_old (.cells #[] 151) c2
  have d3 := cell?_alloc_old (.cells #[] 151) c3
  have d4 := cell?_alloc_old (.cells #[] 151) c4
  have d5 := cell?_alloc_old (.cells #[] 151) c5
  have d6 := cell?_alloc_old (.cells #[] 151) c6
  have d7 := cell?_alloc_old (.cells #[] 151) c7
  have q0 : 0 < n := by omega
  have q1 : (1 : Int) < (n : Int) := by omega
  have q2 : (2 : Int) < (n : Int) := by omega
  have q3 : (3 : Int) < (n : Int) := by omega
  have q4 : (4 : Int) < (n : Int) := by omega
  have q5 : (5 : Int) < (n : Int) := by omega
  have q6 : (6 : Int) < (n : Int) := by omega
  have q7 : (7 : Int) < (n : Int) := by omega
  obtain ⟨l0, u0⟩ := h0
  obtain ⟨l1, u1⟩ := h1
  obtain ⟨l2, u2⟩ := h2
  obtain ⟨l3, u3⟩ := h3
  obtain ⟨l4, u4⟩ := h4
  obtain ⟨l5, u5⟩ := h5
  obtain ⟨l6, u6⟩ := h6
  obtain ⟨l7, u7⟩ := h7
  go_enter Tryz.func190, Tryz.ntmps190
  go_wp2
  go_quiet (fail)
  go_wp2
  go_ret
  refine ⟨?_, ((Below.refl _ w).alloc (Nat.le_refl _) _).trans ⟨rfl, rfl, rfl, Nat.le_refl _, fun _ _ => rfl⟩⟩
  show Ending.returned (Value.int _ _) = _
  first | rfl | (simp (disch := omega) only [u64_wrap_id, u64_or8, u64_or16, u64_or24, u64_or32, u64_or40, u64_or48, u64_or56]) | (simp (disch := omega) only [u64_wrap_id, u64_or8, u64_or16, u64_or24, u64_or32, u64_or40, u64_or48, u64_or56]; rfl)
end Go.Proofs.YtipoenpakjpokaaGreatDoor
