/- The law of truth values: its walk. -/
import Derived.Test.YtnnckokoaenolaaGreatDoorBools
import Derived.Laws.BytesArg
set_option linter.unusedVariables false
set_option linter.unusedSimpArgs false
namespace Go.Proofs.YtnnckokoaenolaaGreatDoor
open Go.RowKit

/-- An owned row of bytes, as a decoder's input. -/
theorem Input.of_row {w : World} {base n : Nat} {v : Value} {bs : List Int} (h : w.ownsRow base 5 1 v n (u8s bs)) (hn : 0 < n) :
    ∃ g c, v = .slice (some ⟨g, 0, none⟩) n c ∧ base ≤ g ∧ g < w.heap.size ∧ Input w g 0 n c bs := by
  obtain ⟨hl, h | ⟨g, cap, cur, hv, hg, hb, hn', hc, hs, ht⟩⟩ := h
  · omega
  · have hlen : bs.length = n := by simpa using hl
    refine ⟨g, cap, hv, hg, sizeOf_blk hb, hlen, hn', hc, fun j hj => ?_⟩
    have h1 : (cur.toList.take (n * 1))[j]? = some (.int .u8 bs[j]) := by rw [ht]; simp [u8s, List.getElem?_eq_getElem hj]
    rw [cellOf hb]
    rw [List.getElem?_take] at h1
    split at h1
    · simpa using h1
    · simp at h1

/-- Bytes as a string. -/
theorem conv_input {w : World} {rb n c : Nat} {bs : List Int} (h : Input w rb 0 n c bs) :
    (convert 23 9 (.slice (some ⟨rb, 0, none⟩) n c)).run Tryz.prog w = .ok (.string (strOfNums bs)) w :=
  run_convert_bytes_arg w 23 5 Tryz.underlying23 Tryz.underlying5 rb 0 n c bs h.len (fun i hi => by
    have := h.cell i (by have := h.len; omega)
    rw [this, List.getD_eq_getElem?_getD, List.getElem?_eq_getElem (by have := h.len; omega)]; rfl) 9 Tryz.underlying9

set_option maxRecDepth 100000 in
set_option maxHeartbeats 2000000 in
theorem lawBools00 (w : World) : Calls Tryz.prog 3 #[.bool false, .bool false] w fun e w' => e = .returned (.bool true) ∧ Below w.heap.size w w' := by
  have q1 : (w.alloc (.cells noVal 34)).heap[w.heap.size]? = some (.cells noVal 34 (0, 0)) := blk_new _ _
  obtain ⟨W2, hW2⟩ : ∃ W, W = (w.alloc (.cells noVal 34)).setRow w.heap.size (boolVal (some false)) := ⟨_, rfl⟩
  have q2 : W2.heap[w.heap.size]? = some (.cells (boolVal (some false)) 34 (0, 0)) := by rw [hW2]; exact setRow_heap _ _ _ _ _ _ q1
  have hb2 : Below w.heap.size w W2 := by rw [hW2]; exact below_setRow ((Below.refl _ w).alloc (Nat.le_refl _) _) (Nat.le_refl _) _
  obtain ⟨W3, hW3⟩ : ∃ W, W = W2.setRow w.heap.size (boolVal none) := ⟨_, rfl⟩
  have q3 : W3.heap[w.heap.size]? = some (.cells (boolVal none) 34 (0, 0)) := by rw [hW3]; exact setRow_heap _ _ _ _ _ _ q2
  have hb3' : Below w.heap.size w W3 := by rw [hW3]; exact below_setRow hb2 (Nat.le_refl _) _
  replace hW2 := Lib.hid hW2
  replace hW3 := Lib.hid hW3
  go_enter Tryz.func3, Tryz.ntmps3
  go_wp2_with (first
    | (refine store_valW rfl (.tmp 5) (.tmp 14) rfl _ rfl (boolVal (some false)) rfl noVal q1 rfl rfl (plain1 _ _ _ _ none 0 0) W2 hW2.out ?_)
    | (refine store_valW rfl (.tmp 5) (.tmp 17) rfl _ rfl (boolVal none) rfl _ q2 rfl rfl (plain1 _ _ _ _ none 0 0) W3 hW3.out ?_)
    | (refine load_val rfl (.tmp 5) rfl _ rfl _ q2 rfl ?_))
  refine (fbBool _ (some false)).mono ?_
  rintro e w1 ⟨v, rfl, ho, hb1⟩
  have q4 : w1.heap[w.heap.size]? = some (.cells (boolVal (some false)) 34 (0, 0)) := (hb1.block _ (sizeOf_blk q2)).trans q2
  have hbw1 : Below w.heap.size w w1 := hb2.trans (hb1.mono hb2.size)
  obtain ⟨g, c, rfl, hg, hgl, hin⟩ := Input.of_row ho (by decide)
  clear ho hb1 hb2 hb3' q1 q2 q3 hg hW2 hW3
  go_wp2_with fail
  refine (foBool w1 (some false) g 0 c hin hgl).mono ?_
  rintro e w3 ⟨rfl, hb3⟩
  have q5 := (hb3.block _ (sizeOf_blk q4)).trans q4
  have hin3 := hin.below hb3 hgl
  have hbw3 := hbw1.trans (hb3.mono hbw1.size)
  have hlt := sizeOf_blk q5
  have hgl3 : g < w3.heap.size := Nat.lt_of_lt_of_le hgl hb3.size
  have q6 : (w3.alloc (.cells noVal 34)).heap[w3.heap.size]? = some (.cells noVal 34 (0, 0)) := blk_new _ _
  obtain ⟨W5, hW5⟩ : ∃ W, W = (w3.alloc (.cells noVal 34)).setRow w3.heap.size (boolVal (some false)) := ⟨_, rfl⟩
  have q7 : W5.heap[w3.heap.size]? = some (.cells (boolVal (some false)) 34 (0, 0)) := by rw [hW5]; exact setRow_heap _ _ _ _ _ _ q6
  have b5 : Below w3.heap.size w3 W5 := by rw [hW5]; exact below_setRow ((Below.refl _ w3).alloc (Nat.le_refl _) _) (Nat.le_refl _) _
  have hc5 : (convert 23 9 (.slice (some ⟨g, 0, none⟩) 2 c)).run Tryz.prog W5 = .ok (.string (strOfNums [28, 0])) W5 := conv_input (hin3.below b5 hgl3)
  have hc6 : (convert 23 9 (.slice (some ⟨W5.heap.size, 0, none⟩) 2 2)).run Tryz.prog (W5.alloc (.cells #[.int .u8 28, .int .u8 0] 5)) = .ok (.string (strOfNums [28, 0])) (W5.alloc (.cells #[.int .u8 28, .int .u8 0] 5)) := by
    refine conv_input (bs := [28, 0]) ⟨rfl, by decide, by decide, fun j hj => ?_⟩
    rw [cellOf (blk_new' _ _ _ (by simp))]
    match j, hj with
    | 0, _ => rfl
    | 1, _ => rfl
  have q9 := (b5.block _ hlt).trans q5
  have k0 : (W5.alloc (.cells #[.int .u8 28, .int .u8 0] 5)).cell? ⟨w3.heap.size, 0, none⟩ = some (.int .i64 1) := cellOf (blk_alloc q7 _) 0
  have k1 : (W5.alloc (.cells #[.int .u8 28, .int .u8 0] 5)).cell? ⟨w3.heap.size, 1, none⟩ = some (.bool false) := cellOf (blk_alloc q7 _) 1
  have l0 : (W5.alloc (.cells #[.int .u8 28, .int .u8 0] 5)).cell? ⟨w.heap.size, 0, none⟩ = some (.int .i64 1) := cellOf (blk_alloc q9 _) 0
  have l1 : (W5.alloc (.cells #[.int .u8 28, .int .u8 0] 5)).cell? ⟨w.heap.size, 1, none⟩ = some (.bool false) := cellOf (blk_alloc q9 _) 1
  replace hW5 := Lib.hid hW5
  have b6 : Below w.heap.size w (W5.alloc (.cells #[.int .u8 28, .int .u8 0] 5)) := (hbw3.trans (b5.mono hbw3.size)).alloc (by have := b5.size; have := hbw3.size; omega) _
  go_wp2_with (refine store_valW rfl (.tmp 10) (.tmp 27) rfl _ rfl (boolVal (some false)) rfl noVal q6 rfl rfl (plain1 _ _ _ _ none 0 0) W5 hW5.out ?_)
  go_ret
  exact ⟨by simp [boolByte], b6⟩

set_option maxRecDepth 100000 in
set_option maxHeartbeats 2000000 in
theorem lawBools10 (w : World) : Calls Tryz.prog 3 #[.bool true, .bool false] w fun e w' => e = .returned (.bool true) ∧ Below w.heap.size w w' := by
  have q1 : (w.alloc (.cells noVal 34)).heap[w.heap.size]? = some (.cells noVal 34 (0, 0)) := blk_new _ _
  obtain ⟨W2, hW2⟩ : ∃ W, W = (w.alloc (.cells noVal 34)).setRow w.heap.size (boolVal (some true)) := ⟨_, rfl⟩
  have q2 : W2.heap[w.heap.size]? = some (.cells (boolVal (some true)) 34 (0, 0)) := by rw [hW2]; exact setRow_heap _ _ _ _ _ _ q1
  have hb2 : Below w.heap.size w W2 := by rw [hW2]; exact below_setRow ((Below.refl _ w).alloc (Nat.le_refl _) _) (Nat.le_refl _) _
  obtain ⟨W3, hW3⟩ : ∃ W, W = W2.setRow w.heap.size (boolVal none) := ⟨_, rfl⟩
  have q3 : W3.heap[w.heap.size]? = some (.cells (boolVal none) 34 (0, 0)) := by rw [hW3]; exact setRow_heap _ _ _ _ _ _ q2
  have hb3' : Below w.heap.size w W3 := by rw [hW3]; exact below_setRow hb2 (Nat.le_refl _) _
  replace hW2 := Lib.hid hW2
  replace hW3 := Lib.hid hW3
  go_enter Tryz.func3, Tryz.ntmps3
  go_wp2_with (first
    | (refine store_valW rfl (.tmp 5) (.tmp 14) rfl _ rfl (boolVal (some true)) rfl noVal q1 rfl rfl (plain1 _ _ _ _ none 0 0) W2 hW2.out ?_)
    | (refine store_valW rfl (.tmp 5) (.tmp 17) rfl _ rfl (boolVal none) rfl _ q2 rfl rfl (plain1 _ _ _ _ none 0 0) W3 hW3.out ?_)
    | (refine load_val rfl (.tmp 5) rfl _ rfl _ q2 rfl ?_))
  refine (fbBool _ (some true)).mono ?_
  rintro e w1 ⟨v, rfl, ho, hb1⟩
  have q4 : w1.heap[w.heap.size]? = some (.cells (boolVal (some true)) 34 (0, 0)) := (hb1.block _ (sizeOf_blk q2)).trans q2
  have hbw1 : Below w.heap.size w w1 := hb2.trans (hb1.mono hb2.size)
  obtain ⟨g, c, rfl, hg, hgl, hin⟩ := Input.of_row ho (by decide)
  clear ho hb1 hb2 hb3' q1 q2 q3 hg hW2 hW3
  go_wp2_with fail
  refine (foBool w1 (some true) g 0 c hin hgl).mono ?_
  rintro e w3 ⟨rfl, hb3⟩
  have q5 := (hb3.block _ (sizeOf_blk q4)).trans q4
  have hin3 := hin.below hb3 hgl
  have hbw3 := hbw1.trans (hb3.mono hbw1.size)
  have hlt := sizeOf_blk q5
  have hgl3 : g < w3.heap.size := Nat.lt_of_lt_of_le hgl hb3.size
  have q6 : (w3.alloc (.cells noVal 34)).heap[w3.heap.size]? = some (.cells noVal 34 (0, 0)) := blk_new _ _
  obtain ⟨W5, hW5⟩ : ∃ W, W = (w3.alloc (.cells noVal 34)).setRow w3.heap.size (boolVal (some true)) := ⟨_, rfl⟩
  have q7 : W5.heap[w3.heap.size]? = some (.cells (boolVal (some true)) 34 (0, 0)) := by rw [hW5]; exact setRow_heap _ _ _ _ _ _ q6
  have b5 : Below w3.heap.size w3 W5 := by rw [hW5]; exact below_setRow ((Below.refl _ w3).alloc (Nat.le_refl _) _) (Nat.le_refl _) _
  have hc5 : (convert 23 9 (.slice (some ⟨g, 0, none⟩) 2 c)).run Tryz.prog W5 = .ok (.string (strOfNums [28, 2])) W5 := conv_input (hin3.below b5 hgl3)
  have hc6 : (convert 23 9 (.slice (some ⟨W5.heap.size, 0, none⟩) 2 2)).run Tryz.prog (W5.alloc (.cells #[.int .u8 28, .int .u8 2] 5)) = .ok (.string (strOfNums [28, 2])) (W5.alloc (.cells #[.int .u8 28, .int .u8 2] 5)) := by
    refine conv_input (bs := [28, 2]) ⟨rfl, by decide, by decide, fun j hj => ?_⟩
    rw [cellOf (blk_new' _ _ _ (by simp))]
    match j, hj with
    | 0, _ => rfl
    | 1, _ => rfl
  have q9 := (b5.block _ hlt).trans q5
  have k0 : (W5.alloc (.cells #[.int .u8 28, .int .u8 2] 5)).cell? ⟨w3.heap.size, 0, none⟩ = some (.int .i64 1) := cellOf (blk_alloc q7 _) 0
  have k1 : (W5.alloc (.cells #[.int .u8 28, .int .u8 2] 5)).cell? ⟨w3.heap.size, 1, none⟩ = some (.bool true) := cellOf (blk_alloc q7 _) 1
  have l0 : (W5.alloc (.cells #[.int .u8 28, .int .u8 2] 5)).cell? ⟨w.heap.size, 0, none⟩ = some (.int .i64 1) := cellOf (blk_alloc q9 _) 0
  have l1 : (W5.alloc (.cells #[.int .u8 28, .int .u8 2] 5)).cell? ⟨w.heap.size, 1, none⟩ = some (.bool true) := cellOf (blk_alloc q9 _) 1
  replace hW5 := Lib.hid hW5
  have b6 : Below w.heap.size w (W5.alloc (.cells #[.int .u8 28, .int .u8 2] 5)) := (hbw3.trans (b5.mono hbw3.size)).alloc (by have := b5.size; have := hbw3.size; omega) _
  go_wp2_with (refine store_valW rfl (.tmp 10) (.tmp 27) rfl _ rfl (boolVal (some true)) rfl noVal q6 rfl rfl (plain1 _ _ _ _ none 0 0) W5 hW5.out ?_)
  go_ret
  exact ⟨by simp [boolByte], b6⟩

set_option maxRecDepth 100000 in
set_option maxHeartbeats 2000000 in
theorem lawBools01 (w : World) : Calls Tryz.prog 3 #[.bool false, .bool true] w fun e w' => e = .returned (.bool true) ∧ Below w.heap.size w w' := by
  have q1 : (w.alloc (.cells noVal 34)).heap[w.heap.size]? = some (.cells noVal 34 (0, 0)) := blk_new _ _
  obtain ⟨W2, hW2⟩ : ∃ W, W = (w.alloc (.cells noVal 34)).setRow w.heap.size (boolVal (some false)) := ⟨_, rfl⟩
  have q2 : W2.heap[w.heap.size]? = some (.cells (boolVal (some false)) 34 (0, 0)) := by rw [hW2]; exact setRow_heap _ _ _ _ _ _ q1
  have hb2 : Below w.heap.size w W2 := by rw [hW2]; exact below_setRow ((Below.refl _ w).alloc (Nat.le_refl _) _) (Nat.le_refl _) _
  obtain ⟨W3, hW3⟩ : ∃ W, W = W2.setRow w.heap.size (boolVal none) := ⟨_, rfl⟩
  have q3 : W3.heap[w.heap.size]? = some (.cells (boolVal none) 34 (0, 0)) := by rw [hW3]; exact setRow_heap _ _ _ _ _ _ q2
  have hb3' : Below w.heap.size w W3 := by rw [hW3]; exact below_setRow hb2 (Nat.le_refl _) _
  replace hW2 := Lib.hid hW2
  replace hW3 := Lib.hid hW3
  go_enter Tryz.func3, Tryz.ntmps3
  go_wp2_with (first
    | (refine store_valW rfl (.tmp 5) (.tmp 14) rfl _ rfl (boolVal (some false)) rfl noVal q1 rfl rfl (plain1 _ _ _ _ none 0 0) W2 hW2.out ?_)
    | (refine store_valW rfl (.tmp 5) (.tmp 17) rfl _ rfl (boolVal none) rfl _ q2 rfl rfl (plain1 _ _ _ _ none 0 0) W3 hW3.out ?_)
    | (refine load_val rfl (.tmp 5) rfl _ rfl _ q3 rfl ?_))
  refine (fbBool _ (none)).mono ?_
  rintro e w1 ⟨v, rfl, ho, hb1⟩
  have q4 : w1.heap[w.heap.size]? = some (.cells (boolVal (none)) 34 (0, 0)) := (hb1.block _ (sizeOf_blk q3)).trans q3
  have hbw1 : Below w.heap.size w w1 := hb3'.trans (hb1.mono hb3'.size)
  obtain ⟨g, c, rfl, hg, hgl, hin⟩ := Input.of_row ho (by decide)
  clear ho hb1 hb2 hb3' q1 q2 q3 hg hW2 hW3
  go_wp2_with fail
  refine (foBool w1 (none) g 0 c hin hgl).mono ?_
  rintro e w3 ⟨rfl, hb3⟩
  have q5 := (hb3.block _ (sizeOf_blk q4)).trans q4
  have hin3 := hin.below hb3 hgl
  have hbw3 := hbw1.trans (hb3.mono hbw1.size)
  have hlt := sizeOf_blk q5
  have hgl3 : g < w3.heap.size := Nat.lt_of_lt_of_le hgl hb3.size
  have q6 : (w3.alloc (.cells noVal 34)).heap[w3.heap.size]? = some (.cells noVal 34 (0, 0)) := blk_new _ _
  obtain ⟨W5, hW5⟩ : ∃ W, W = (w3.alloc (.cells noVal 34)).setRow w3.heap.size (boolVal (none)) := ⟨_, rfl⟩
  have q7 : W5.heap[w3.heap.size]? = some (.cells (boolVal (none)) 34 (0, 0)) := by rw [hW5]; exact setRow_heap _ _ _ _ _ _ q6
  have b5 : Below w3.heap.size w3 W5 := by rw [hW5]; exact below_setRow ((Below.refl _ w3).alloc (Nat.le_refl _) _) (Nat.le_refl _) _
  have hc5 : (convert 23 9 (.slice (some ⟨g, 0, none⟩) 2 c)).run Tryz.prog W5 = .ok (.string (strOfNums [28, 1])) W5 := conv_input (hin3.below b5 hgl3)
  have hc6 : (convert 23 9 (.slice (some ⟨W5.heap.size, 0, none⟩) 2 2)).run Tryz.prog (W5.alloc (.cells #[.int .u8 28, .int .u8 1] 5)) = .ok (.string (strOfNums [28, 1])) (W5.alloc (.cells #[.int .u8 28, .int .u8 1] 5)) := by
    refine conv_input (bs := [28, 1]) ⟨rfl, by decide, by decide, fun j hj => ?_⟩
    rw [cellOf (blk_new' _ _ _ (by simp))]
    match j, hj with
    | 0, _ => rfl
    | 1, _ => rfl
  have q9 := (b5.block _ hlt).trans q5
  have k0 : (W5.alloc (.cells #[.int .u8 28, .int .u8 1] 5)).cell? ⟨w3.heap.size, 0, none⟩ = some (.int .i64 0) := cellOf (blk_alloc q7 _) 0
  have k1 : (W5.alloc (.cells #[.int .u8 28, .int .u8 1] 5)).cell? ⟨w3.heap.size, 1, none⟩ = some (.bool false) := cellOf (blk_alloc q7 _) 1
  have l0 : (W5.alloc (.cells #[.int .u8 28, .int .u8 1] 5)).cell? ⟨w.heap.size, 0, none⟩ = some (.int .i64 0) := cellOf (blk_alloc q9 _) 0
  have l1 : (W5.alloc (.cells #[.int .u8 28, .int .u8 1] 5)).cell? ⟨w.heap.size, 1, none⟩ = some (.bool false) := cellOf (blk_alloc q9 _) 1
  replace hW5 := Lib.hid hW5
  have b6 : Below w.heap.size w (W5.alloc (.cells #[.int .u8 28, .int .u8 1] 5)) := (hbw3.trans (b5.mono hbw3.size)).alloc (by have := b5.size; have := hbw3.size; omega) _
  go_wp2_with (refine store_valW rfl (.tmp 10) (.tmp 27) rfl _ rfl (boolVal (none)) rfl noVal q6 rfl rfl (plain1 _ _ _ _ none 0 0) W5 hW5.out ?_)
  go_ret
  exact ⟨by simp [boolByte], b6⟩

set_option maxRecDepth 100000 in
set_option maxHeartbeats 2000000 in
theorem lawBools11 (w : World) : Calls Tryz.prog 3 #[.bool true, .bool true] w fun e w' => e = .returned (.bool true) ∧ Below w.heap.size w w' := by
  have q1 : (w.alloc (.cells noVal 34)).heap[w.heap.size]? = some (.cells noVal 34 (0, 0)) := blk_new _ _
  obtain ⟨W2, hW2⟩ : ∃ W, W = (w.alloc (.cells noVal 34)).setRow w.heap.size (boolVal (some true)) := ⟨_, rfl⟩
  have q2 : W2.heap[w.heap.size]? = some (.cells (boolVal (some true)) 34 (0, 0)) := by rw [hW2]; exact setRow_heap _ _ _ _ _ _ q1
  have hb2 : Below w.heap.size w W2 := by rw [hW2]; exact below_setRow ((Below.refl _ w).alloc (Nat.le_refl _) _) (Nat.le_refl _) _
  obtain ⟨W3, hW3⟩ : ∃ W, W = W2.setRow w.heap.size (boolVal none) := ⟨_, rfl⟩
  have q3 : W3.heap[w.heap.size]? = some (.cells (boolVal none) 34 (0, 0)) := by rw [hW3]; exact setRow_heap _ _ _ _ _ _ q2
  have hb3' : Below w.heap.size w W3 := by rw [hW3]; exact below_setRow hb2 (Nat.le_refl _) _
  replace hW2 := Lib.hid hW2
  replace hW3 := Lib.hid hW3
  go_enter Tryz.func3, Tryz.ntmps3
  go_wp2_with (first
    | (refine store_valW rfl (.tmp 5) (.tmp 14) rfl _ rfl (boolVal (some true)) rfl noVal q1 rfl rfl (plain1 _ _ _ _ none 0 0) W2 hW2.out ?_)
    | (refine store_valW rfl (.tmp 5) (.tmp 17) rfl _ rfl (boolVal none) rfl _ q2 rfl rfl (plain1 _ _ _ _ none 0 0) W3 hW3.out ?_)
    | (refine load_val rfl (.tmp 5) rfl _ rfl _ q3 rfl ?_))
  refine (fbBool _ (none)).mono ?_
  rintro e w1 ⟨v, rfl, ho, hb1⟩
  have q4 : w1.heap[w.heap.size]? = some (.cells (boolVal (none)) 34 (0, 0)) := (hb1.block _ (sizeOf_blk q3)).trans q3
  have hbw1 : Below w.heap.size w w1 := hb3'.trans (hb1.mono hb3'.size)
  obtain ⟨g, c, rfl, hg, hgl, hin⟩ := Input.of_row ho (by decide)
  clear ho hb1 hb2 hb3' q1 q2 q3 hg hW2 hW3
  go_wp2_with fail
  refine (foBool w1 (none) g 0 c hin hgl).mono ?_
  rintro e w3 ⟨rfl, hb3⟩
  have q5 := (hb3.block _ (sizeOf_blk q4)).trans q4
  have hin3 := hin.below hb3 hgl
  have hbw3 := hbw1.trans (hb3.mono hbw1.size)
  have hlt := sizeOf_blk q5
  have hgl3 : g < w3.heap.size := Nat.lt_of_lt_of_le hgl hb3.size
  have q6 : (w3.alloc (.cells noVal 34)).heap[w3.heap.size]? = some (.cells noVal 34 (0, 0)) := blk_new _ _
  obtain ⟨W5, hW5⟩ : ∃ W, W = (w3.alloc (.cells noVal 34)).setRow w3.heap.size (boolVal (none)) := ⟨_, rfl⟩
  have q7 : W5.heap[w3.heap.size]? = some (.cells (boolVal (none)) 34 (0, 0)) := by rw [hW5]; exact setRow_heap _ _ _ _ _ _ q6
  have b5 : Below w3.heap.size w3 W5 := by rw [hW5]; exact below_setRow ((Below.refl _ w3).alloc (Nat.le_refl _) _) (Nat.le_refl _) _
  have hc5 : (convert 23 9 (.slice (some ⟨g, 0, none⟩) 2 c)).run Tryz.prog W5 = .ok (.string (strOfNums [28, 1])) W5 := conv_input (hin3.below b5 hgl3)
  have hc6 : (convert 23 9 (.slice (some ⟨W5.heap.size, 0, none⟩) 2 2)).run Tryz.prog (W5.alloc (.cells #[.int .u8 28, .int .u8 1] 5)) = .ok (.string (strOfNums [28, 1])) (W5.alloc (.cells #[.int .u8 28, .int .u8 1] 5)) := by
    refine conv_input (bs := [28, 1]) ⟨rfl, by decide, by decide, fun j hj => ?_⟩
    rw [cellOf (blk_new' _ _ _ (by simp))]
    match j, hj with
    | 0, _ => rfl
    | 1, _ => rfl
  have q9 := (b5.block _ hlt).trans q5
  have k0 : (W5.alloc (.cells #[.int .u8 28, .int .u8 1] 5)).cell? ⟨w3.heap.size, 0, none⟩ = some (.int .i64 0) := cellOf (blk_alloc q7 _) 0
  have k1 : (W5.alloc (.cells #[.int .u8 28, .int .u8 1] 5)).cell? ⟨w3.heap.size, 1, none⟩ = some (.bool false) := cellOf (blk_alloc q7 _) 1
  have l0 : (W5.alloc (.cells #[.int .u8 28, .int .u8 1] 5)).cell? ⟨w.heap.size, 0, none⟩ = some (.int .i64 0) := cellOf (blk_alloc q9 _) 0
  have l1 : (W5.alloc (.cells #[.int .u8 28, .int .u8 1] 5)).cell? ⟨w.heap.size, 1, none⟩ = some (.bool false) := cellOf (blk_alloc q9 _) 1
  replace hW5 := Lib.hid hW5
  have b6 : Below w.heap.size w (W5.alloc (.cells #[.int .u8 28, .int .u8 1] 5)) := (hbw3.trans (b5.mono hbw3.size)).alloc (by have := b5.size; have := hbw3.size; omega) _
  go_wp2_with (refine store_valW rfl (.tmp 10) (.tmp 27) rfl _ rfl (boolVal (none)) rfl noVal q6 rfl rfl (plain1 _ _ _ _ none 0 0) W5 hW5.out ?_)
  go_ret
  exact ⟨by simp [boolByte], b6⟩

theorem lawBools (w : World) (is null : Bool) : Calls Tryz.prog 3 #[.bool is, .bool null] w fun e w' => e = .returned (.bool true) ∧ Below w.heap.size w w' := by
  cases is <;> cases null
  · exact lawBools00 w
  · exact lawBools01 w
  · exact lawBools10 w
  · exact lawBools11 w
end Go.Proofs.YtnnckokoaenolaaGreatDoor
