/- The law's own helpers: which integer is meant, how many bytes, the bytes themselves. -/
import Derived.Test.YtnnckokoaenolaaGreatDoorIntsRd
set_option linter.unusedVariables false
set_option linter.unusedSimpArgs false
namespace Go.Proofs.YtnnckokoaenolaaGreatDoor
open Go.RowKit

def IntOut (w : World) (e : Ending) (w' : World) : Prop := ∃ c k i, IntCode c k i ∧ e = .returned (.tuple #[.int .i64 c, .int .i64 i]) ∧ w = w'
theorem IntOut.mk {w : World} {c i : Int} {k : Nat} (h : IntCode c k i) : IntOut w (.returned (.tuple #[.int .i64 c, .int .i64 i])) w := ⟨c, k, i, h, rfl, rfl⟩

set_option maxRecDepth 100000 in
theorem vaInteger_any (w : World) (a n : Int) (a0 : 0 ≤ a) (a1 : a ≤ 255) (n0 : -9223372036854775808 ≤ n) (n1 : n ≤ 9223372036854775807) :
    Calls Tryz.prog 12 #[.int .u8 a, .int .i64 n] w (IntOut w) := by
  have hn := Lib.hid (And.intro n0 n1); clear n0 n1
  have e16 : -32768 ≤ wrap64 (IntKind.i16.wrap n) ∧ wrap64 (IntKind.i16.wrap n) < 32768 := by
    simp only [wrap64, IntKind.wrap, IntKind.bits, IntKind.signed]; simp; omega
  have e32 : -2147483648 ≤ wrap64 (wrap32 n) ∧ wrap64 (wrap32 n) < 2147483648 := by
    simp only [wrap64, wrap32, IntKind.wrap, IntKind.bits, IntKind.signed]; try simp
    omega
  replace e16 := Lib.hid e16
  replace e32 := Lib.hid e32
  rcases (show a % 4 = 0 ∨ a % 4 = 1 ∨ a % 4 = 2 ∨ a % 4 = 3 by omega) with h | h | h | h
  · go_enter Tryz.func12, Tryz.ntmps12
    go_wp2
    go_ret2
    exact IntOut.mk (k := 1) (.inl ⟨rfl, rfl, by omega, by omega⟩)
  · go_enter Tryz.func12, Tryz.ntmps12
    go_wp2
    go_ret2
    exact IntOut.mk (k := 2) (.inr (.inl ⟨rfl, rfl, e16.out.1, e16.out.2⟩))
  · go_enter Tryz.func12, Tryz.ntmps12
    go_wp2
    go_ret2
    exact IntOut.mk (k := 4) (.inr (.inr (.inl ⟨rfl, rfl, e32.out.1, e32.out.2⟩)))
  · go_enter Tryz.func12, Tryz.ntmps12
    go_wp2
    go_ret2
    exact IntOut.mk (k := 8) (.inr (.inr (.inr ⟨rfl, rfl, hn.out.1, by have := hn.out.2; omega⟩)))

theorem vaWidth_any (w : World) (c : Int) (k : Nat) (i : Int) (h : IntCode c k i) :
    Calls Tryz.prog 13 #[.int .i64 c] w fun e w' => e = .returned (.int .i64 k) ∧ w = w' := by
  rcases h with ⟨rfl, rfl, _, _⟩ | ⟨rfl, rfl, _, _⟩ | ⟨rfl, rfl, _, _⟩ | ⟨rfl, rfl, _, _⟩
  all_goals
    go_enter Tryz.func13, Tryz.ntmps13
    go_wp2
    go_ret
    exact ⟨by simp, rfl⟩

theorem leB_snoc (n : Int) (k : Nat) : leB n (k + 1) = leB n k ++ [n / 256 ^ k % 256] := by
  induction k generalizing n with
  | zero => simp [leB]
  | succ k ih =>
    rw [leB, ih (n / 256)]
    simp only [leB, List.cons_append]
    congr 3
    rw [Int.ediv_ediv_of_nonneg (by decide), Int.pow_succ, Int.mul_comm]
/-- The bytes that are laid so far, and noughts behind them. -/
def lowRow (n : Int) (k j : Nat) : List Value := u8s (leB n j) ++ List.replicate (k - j) (.int .u8 0)
theorem lowRow_zero (n : Int) (k : Nat) : lowRow n k 0 = List.replicate k (.int .u8 0) := by simp [lowRow, leB]
theorem lowRow_all (n : Int) (k : Nat) : lowRow n k k = u8s (leB n k) := by simp [lowRow]
theorem lowRow_set (n : Int) (k j : Nat) (hj : j < k) : (lowRow n k j).set j (.int .u8 (n / 256 ^ j % 256)) = lowRow n k (j + 1) := by
  unfold lowRow
  rw [leB_snoc, List.set_append_right _ _ (by simp)]
  simp only [List.length_map, leB_length, Nat.sub_self, List.map_append, List.map_cons, List.map_nil, List.append_assoc]
  congr 1
  rw [show k - j = (k - (j + 1)) + 1 by omega, List.replicate_succ]
  rfl
theorem lowRow_get (n : Int) (k j : Nat) (hj : j < k) : (lowRow n k j)[j]? = some (.int .u8 0) := by
  unfold lowRow
  rw [List.getElem?_append_right (by simp)]
  simp [List.getElem?_replicate]
  omega

set_option maxRecDepth 100000 in
theorem vaLow_any (w : World) (n : Nat) (hn : n < 18446744073709551616) (k : Nat) (hk : k ≤ 8) :
    Calls Tryz.prog 14 #[.int .u64 n, .int .i64 k] w fun e w' => ∃ v, e = .returned v ∧ w'.ownsRow w.heap.size 5 1 v k (u8s (leB n k)) ∧ Below w.heap.size w w' := by
  obtain ⟨i0, hi, hz0, hz1, hz2⟩ := info_parts Tryz.info5
  have hbig : (i0.bytes : Nat) * k ≤ 281474976710656 := by rw [hz2]; omega
  go_enter Tryz.func14, Tryz.ntmps14
  go_wp2_with (refine wpList_make_full _ rfl (.tmp 7) (.tmp 7) 23 rfl w.heap.size 5 i0 (.int .u8 0) 1 Tryz.underlying23 hi hz0 hz1 .i64 .i64 _ _ k rfl rfl rfl rfl hbig (by unfold maxLen; omega) (Nat.le_refl _) ?_; intro w1 hown hg)
  have hown0 : w1.ownsRow w.heap.size 5 1 (.slice (some ⟨w.heap.size, 0, none⟩) k k) k (lowRow n k 0) := by
    rw [lowRow_zero]
    simpa [Value.cells, toList_madeCells_one] using hown
  have hb1 : Below w.heap.size w w1 := (Below.refl _ w).grown hg (Nat.le_refl _) (fun _ h => by cases h)
  clear hown hg hi hz0 hz1 hz2 hbig
  go_loopw [11] (fun i wr => ∃ j : Nat, j ≤ k ∧ i = .int .i64 j ∧ wr.ownsRow w.heap.size 5 1 (.slice (some ⟨w.heap.size, 0, none⟩) k k) k (lowRow n k j) ∧ Below w.heap.size w wr) (fun i _ => k - (intOf i).toNat)
  case atStart => exact ⟨0, Nat.zero_le _, rfl, hown0, hb1⟩
  case round =>
    obtain ⟨j, hj, rfl, hown, hb⟩ := hrel
    clear hown0 hb1
    by_cases hlt : j < k
    · have hc := (hown.cellAt j (by omega)).trans (lowRow_get n k j hlt)
      have hf := hown.frozenAt j
      have hst := (hown.stored j (.int .u8 (n / 256 ^ j % 256)))
      rw [lowRow_set n k j hlt] at hst
      have hst' := Lib.hid hst.1
      have hb' := Lib.hid (hb.setCell (p := ⟨w.heap.size, j, none⟩) (Nat.le_refl _) (.int .u8 (n / 256 ^ j % 256)))
      clear hst hown
      rcases (show j = 0 ∨ j = 1 ∨ j = 2 ∨ j = 3 ∨ j = 4 ∨ j = 5 ∨ j = 6 ∨ j = 7 by omega) with rfl | rfl | rfl | rfl | rfl | rfl | rfl | rfl
      · skip
        go_wp2
        go_roundw
        case rel => exact ⟨1, by omega, rfl, by simpa using hst'.out, by simpa using hb'.out⟩
        case measure => simp [intOf]; omega
      · skip
        go_wp2
        go_roundw
        case rel => exact ⟨2, by omega, rfl, by simpa using hst'.out, by simpa using hb'.out⟩
        case measure => simp [intOf]; omega
      · skip
        go_wp2
        go_roundw
        case rel => exact ⟨3, by omega, rfl, by simpa using hst'.out, by simpa using hb'.out⟩
        case measure => simp [intOf]; omega
      · skip
        go_wp2
        go_roundw
        case rel => exact ⟨4, by omega, rfl, by simpa using hst'.out, by simpa using hb'.out⟩
        case measure => simp [intOf]; omega
      · skip
        go_wp2
        go_roundw
        case rel => exact ⟨5, by omega, rfl, by simpa using hst'.out, by simpa using hb'.out⟩
        case measure => simp [intOf]; omega
      · skip
        go_wp2
        go_roundw
        case rel => exact ⟨6, by omega, rfl, by simpa using hst'.out, by simpa using hb'.out⟩
        case measure => simp [intOf]; omega
      · skip
        go_wp2
        go_roundw
        case rel => exact ⟨7, by omega, rfl, by simpa using hst'.out, by simpa using hb'.out⟩
        case measure => simp [intOf]; omega
      · have e7 : (n : Int) / 256 ^ 7 % 256 = n / 72057594037927936 := by
          have : (256 : Int) ^ 7 = 72057594037927936 := by decide
          rw [this]; omega
        rw [e7] at hst' hb'
        go_wp2
        go_roundw
        case rel => exact ⟨8, by omega, rfl, by simpa using hst'.out, by simpa using hb'.out⟩
        case measure => simp [intOf]; omega
    · obtain rfl : j = k := by omega
      rw [lowRow_all] at hown
      go_wp2
      go_ret
      exact ⟨_, rfl, hown, hb⟩
end Go.Proofs.YtnnckokoaenolaaGreatDoor
