/- Texts of ASCII: the transformers copy them. -/
import Derived.Test.YtipoenpakjpokaaGreatDoorTxt1
set_option linter.unusedVariables false
set_option linter.unusedSimpArgs false
namespace Go.Proofs.YtipoenpakjpokaaGreatDoor
open Go.RowKit

/-- All bytes are ASCII. -/
def Ascii (bs : List Int) : Prop := ∀ b ∈ bs, 0 ≤ b ∧ b ≤ 127
theorem Ascii.at {bs : List Int} (h : Ascii bs) (k : Nat) (hk : k < bs.length) : 0 ≤ bs[k] ∧ bs[k] ≤ 127 := h _ (List.getElem_mem hk)
/-- A row whose first k cells are those of the text. -/
def rowAt (G : List Value) (bs : List Int) (k : Nat) : List Value := u8s (bs.take k) ++ G.drop k
theorem rowAt_zero (G : List Value) (bs : List Int) : rowAt G bs 0 = G := by simp [rowAt]
theorem rowAt_length (G : List Value) (bs : List Int) (k : Nat) (hk : k ≤ bs.length) (hG : k ≤ G.length) : (rowAt G bs k).length = G.length := by simp [rowAt]; omega
theorem rowAt_step (G : List Value) (bs : List Int) (k : Nat) (hk : k < bs.length) (hG : k < G.length) : (rowAt G bs k).set k (.int .u8 bs[k]) = rowAt G bs (k + 1) := by
  unfold rowAt
  rw [List.set_append_right _ _ (by simp; omega)]
  have e : k - (u8s (bs.take k)).length = 0 := by simp; omega
  have e2 : u8s (bs.take (k + 1)) = u8s (bs.take k) ++ [.int .u8 bs[k]] := by rw [List.take_succ_eq_append_getElem hk]; simp only [u8s, List.map_append, List.map_cons, List.map_nil]
  rw [e, List.drop_eq_getElem_cons hG, List.set_cons_zero, e2, List.append_assoc]
  rfl
theorem rowAt_get (G : List Value) (bs : List Int) (k j : Nat) (hj : j < k) (hk : k ≤ bs.length) : (rowAt G bs k)[j]? = some (.int .u8 (bs[j]'(by omega))) := by
  unfold rowAt
  rw [List.getElem?_append_left (by simp; omega)]
  simp [u8s, List.getElem?_take, hj, List.getElem?_eq_getElem (show j < bs.length by omega)]

set_option maxRecDepth 100000 in
set_option maxHeartbeats 1000000 in
theorem trEnc (w : World) (a : Addr) (g N cc : Nat) (G : List Value) (hg : w.heap[g]? = some (.cells G.toArray 5 (0, 0))) (hN : N ≤ G.length) (b o n c : Nat) (bs : List Int) (hin : Input w b o n c bs) (hbg : b ≠ g) (hnN : n ≤ N) (hn : n ≤ 3000) (has : Ascii bs) :
    Calls Tryz.prog 358 #[.pointer (some a), .slice (some ⟨g, 0, none⟩) N cc, .slice (some ⟨b, o, none⟩) n c, .bool true] w fun e w' =>
      e = .returned (.tuple #[.int .i64 n, .int .i64 n, .nilIface]) ∧ w'.heap[g]? = some (.cells (rowAt G bs n).toArray 5 (0, 0)) ∧ Keeps (fun k => k = g) w w' := by
  have hlen := Lib.hid hin.len
  have hin' := Lib.hid hin.cell
  have hbw : n ≠ 0 → b < w.heap.size := fun h0 => World.block_lt_of_cell? _ _ (hin.cell 0 (by have := hin.len; omega))
  have has' := Lib.hid has
  have hbw' := Lib.hid hbw
  clear hin has hbw
  have hg0 : w.heap[g]? = some (.cells (rowAt G bs 0).toArray 5 (0, 0)) := by rw [rowAt_zero]; exact hg
  go_enter Tryz.func358, Tryz.ntmps358
  go_wp2_with fail
  go_loopw [11, 12] (fun i j wr => ∃ k : Nat, k ≤ n ∧ i = .int .i64 k ∧ j = .int .i64 k ∧ wr.heap[g]? = some (.cells (rowAt G bs k).toArray 5 (0, 0)) ∧ Keeps (fun x => x = g) w wr) (fun i _ _ => n - (intOf i).toNat)
  case atStart => exact ⟨0, Nat.zero_le _, rfl, rfl, hg0, Keeps.refl _ _⟩
  case round =>
    obtain ⟨k, hk, rfl, rfl, hgr, hke⟩ := hrel
    clear hg hg0
    by_cases hlt : k < n
    · have hl := hlen.out
      obtain ⟨x, hx⟩ : ∃ x, x = bs[k]'(by omega) := ⟨_, rfl⟩
      have hx2 := has'.out.at k (by omega)
      rw [← hx] at hx2
      obtain ⟨x0, x1⟩ := hx2
      have hc : wr.cell? ⟨b, o + k, none⟩ = some (.int .u8 x) := by rw [hx]; exact hke.cellS (hin'.out k (by omega)) (fun h => hbg h)
      have hd : wr.cell? ⟨g, k, none⟩ = some ((rowAt G bs k)[k]'(by rw [rowAt_length] <;> omega)) := by rw [cellOf hgr, List.getElem?_toArray, List.getElem?_eq_getElem]
      have hf : wr.frozen? ⟨g, k, none⟩ = false := frozenOf hgr k
      have hs : Hid ((wr.setCell ⟨g, k, none⟩ (.int .u8 x)).heap[g]? = some (.cells (rowAt G bs (k + 1)).toArray 5 (0, 0))) := by
        have := blk_setCell hgr k (.int .u8 x)
        rw [List.setIfInBounds_toArray, hx, rowAt_step G bs k (by omega) (by omega)] at this
        rw [hx]; exact this
      have hk2 : Hid (Keeps (fun x => x = g) w (wr.setCell ⟨g, k, none⟩ (.int .u8 x))) := hke.setCell _ _ (fun _ => rfl)
      generalize (rowAt G bs k)[k]'(by rw [rowAt_length] <;> omega) = old at hd
      clear hgr hke hx hl
      go_wp2
      go_roundw
      case rel => exact ⟨k + 1, by omega, by go_num, by go_num, hs.out, hk2.out⟩
      case measure => simp [intOf]; omega
    · obtain rfl : k = n := by omega
      go_wp2
      exact bodyPost_ret (v := .tuple #[.int .i64 k, .int .i64 k, .nilIface]) (by simp [results, Tryz.results358, go_sem]) rfl ⟨rfl, hgr, hke⟩

set_option maxRecDepth 100000 in
set_option maxHeartbeats 1000000 in
theorem trDec (w : World) (a : Addr) (g N cc : Nat) (G : List Value) (hg : w.heap[g]? = some (.cells G.toArray 5 (0, 0))) (hN : N ≤ G.length) (b o n c : Nat) (bs : List Int) (hin : Input w b o n c bs) (hbg : b ≠ g) (hnN : n ≤ N) (hn : n ≤ 3000) (has : Ascii bs) :
    Calls Tryz.prog 370 #[.pointer (some a), .slice (some ⟨g, 0, none⟩) N cc, .slice (some ⟨b, o, none⟩) n c, .bool true] w fun e w' =>
      e = .returned (.tuple #[.int .i64 n, .int .i64 n, .nilIface]) ∧ w'.heap[g]? = some (.cells (rowAt G bs n).toArray 5 (0, 0)) ∧ Keeps (fun k => k = g) w w' := by
  have hlen := Lib.hid hin.len
  have hin' := Lib.hid hin.cell
  have hbw : n ≠ 0 → b < w.heap.size := fun h0 => World.block_lt_of_cell? _ _ (hin.cell 0 (by have := hin.len; omega))
  have has' := Lib.hid has
  have hbw' := Lib.hid hbw
  clear hin has hbw
  have hg0 : w.heap[g]? = some (.cells (rowAt G bs 0).toArray 5 (0, 0)) := by rw [rowAt_zero]; exact hg
  go_enter Tryz.func370, Tryz.ntmps370
  go_wp2_with fail
  go_loopw [11, 12] (fun i j wr => ∃ k : Nat, k ≤ n ∧ i = .int .i64 k ∧ j = .int .i64 k ∧ wr.heap[g]? = some (.cells (rowAt G bs k).toArray 5 (0, 0)) ∧ Keeps (fun x => x = g) w wr) (fun i _ _ => n - (intOf i).toNat)
  case atStart => exact ⟨0, Nat.zero_le _, rfl, rfl, hg0, Keeps.refl _ _⟩
  case round =>
    obtain ⟨k, hk, rfl, rfl, hgr, hke⟩ := hrel
    clear hg hg0
    by_cases hlt : k < n
    · have hl := hlen.out
      obtain ⟨x, hx⟩ : ∃ x, x = bs[k]'(by omega) := ⟨_, rfl⟩
      have hx2 := has'.out.at k (by omega)
      rw [← hx] at hx2
      obtain ⟨x0, x1⟩ := hx2
      have hc : wr.cell? ⟨b, o + k, none⟩ = some (.int .u8 x) := by rw [hx]; exact hke.cellS (hin'.out k (by omega)) (fun h => hbg h)
      have hd : wr.cell? ⟨g, k, none⟩ = some ((rowAt G bs k)[k]'(by rw [rowAt_length] <;> omega)) := by rw [cellOf hgr, List.getElem?_toArray, List.getElem?_eq_getElem]
      have hf : wr.frozen? ⟨g, k, none⟩ = false := frozenOf hgr k
      have hs : Hid ((wr.setCell ⟨g, k, none⟩ (.int .u8 x)).heap[g]? = some (.cells (rowAt G bs (k + 1)).toArray 5 (0, 0))) := by
        have := blk_setCell hgr k (.int .u8 x)
        rw [List.setIfInBounds_toArray, hx, rowAt_step G bs k (by omega) (by omega)] at this
        rw [hx]; exact this
      have hk2 : Hid (Keeps (fun x => x = g) w (wr.setCell ⟨g, k, none⟩ (.int .u8 x))) := hke.setCell _ _ (fun _ => rfl)
      generalize (rowAt G bs k)[k]'(by rw [rowAt_length] <;> omega) = old at hd
      clear hgr hke hx hl
      go_wp2
      go_roundw
      case rel => exact ⟨k + 1, by omega, by go_num, by go_num, hs.out, hk2.out⟩
      case measure => simp [intOf]; omega
    · obtain rfl : k = n := by omega
      go_wp2
      exact bodyPost_ret (v := .tuple #[.int .i64 k, .int .i64 k, .nilIface]) (by simp [results, Tryz.results370, go_sem]) rfl ⟨rfl, hgr, hke⟩
end Go.Proofs.YtipoenpakjpokaaGreatDoor
