/- The decoder is made; it reads bytes. -/
import Derived.Test.YtipoenpakjpokaaGreatDoorDec1
set_option linter.unusedVariables false
set_option linter.unusedSimpArgs false
namespace Go.Proofs.YtipoenpakjpokaaGreatDoor
open Go.RowKit

/-- The decoder's transformer. -/
def TrD (tr : Value) : Prop := ∃ a, tr = .iface 131 (.pointer (some a))
set_option maxRecDepth 100000 in
theorem decoder_any (w : World) (rb ro n c : Nat) (dfv emp : Bool) :
    Calls Tryz.prog 18 #[.slice (some ⟨rb, ro, none⟩) n c, .bool dfv, .bool emp] w fun e w' =>
      ∃ D S tr, e = .returned (.pointer (some ⟨D, 0, none⟩)) ∧ TrD tr ∧ DecAt w' w.heap.size D S rb ro n c tr dfv emp 0 ∧ Below w.heap.size w w' := by
  have hmk := make4k
  go_enter Tryz.func18, Tryz.ntmps18
  go_wp2
  go_end0
  go_wp2
  go_ret
  refine ⟨w.heap.size + 1 + 1, w.heap.size + 1, .iface 131 (.pointer (some ⟨w.heap.size, 0, none⟩)), rfl, ⟨_, rfl⟩, ⟨?_, ⟨zeros4k.toList, by rw [Array.length_toList, zeros4k_size], ?_⟩, ⟨by omega, by omega⟩, ⟨w.heap.size, rfl, blk_alloc (blk_alloc (blk_new _ _) _) _⟩⟩, ?_⟩
  · exact blk_new' _ _ _ (by simp)
  · rw [zeros4k_list]; exact blk_alloc (blk_new' _ _ _ (by simp)) _
  · exact (((Below.refl _ _).alloc (Nat.le_refl _) _).alloc (by simp) _).alloc (by simp; omega) _

theorem splice_get {G cs : List Value} (j : Nat) (h : j < cs.length) : (splice G 0 cs)[j]? = cs[j]? := by
  simp [splice, List.getElem?_append_left h]

set_option maxRecDepth 100000 in
/-- m bytes are read into the scratch row. -/
theorem readScr (w : World) (base D S rb ro n c : Nat) (tr : Value) (dfv emp : Bool) (k : Nat) (bs : List Int) (h : DecAt w base D S rb ro n c tr dfv emp k) (hin : Input w rb ro n c bs) (m cc : Nat) (hm : m ≤ 4096) (hkm : k + m ≤ n) :
    Calls Tryz.prog 128 #[.pointer (some ⟨D, 0, none⟩), .slice (some ⟨S, 0, none⟩) m cc] w fun e w' =>
      e = .returned (.tuple #[.int .i64 m, .nilIface]) ∧ DecAt w' base D S rb ro n c tr dfv emp (k + m) ∧ (∀ j (hj : j < m), w'.cell? ⟨S, j, none⟩ = some (.int .u8 (bs[k + j]'(by have := hin.len; omega)))) ∧ Keeps (fun x => x = D ∨ x = S) w w' ∧ Below base w w' := by
  obtain ⟨C, hC, hs⟩ := h.scr
  refine (readFull_any w base D S rb ro n c tr dfv emp k bs h hin S m cc C hs (by omega) hkm).mono ?_
  rintro e w' ⟨rfl, hd, hg, hk⟩
  have hl := hin.len
  have hsl : (splice C 0 (u8s ((bs.drop k).take m))).length = 4096 := by
    rw [length_splice _ _ _ (by simp; omega), hC]
  obtain ⟨tb, te, ht⟩ := h.tra
  have hTD : tb ≠ D := fun e => by have := h.dec; rw [← e, ht] at this; simp at this
  have hTS : tb ≠ S := fun e => by rw [← e, ht] at hs; simp at hs
  refine ⟨rfl, ⟨hd, ⟨_, hsl, hg⟩, h.lo, ⟨tb, te, hk.at_ ht (fun x => x.elim hTD hTS)⟩⟩, fun j hj => ?_, hk, ?_⟩
  · rw [cellOf hg, List.getElem?_toArray, splice_get j (by simp; omega)]
    simp [List.getElem?_eq_getElem (show k + j < bs.length by omega), hj]
  · have := h.lo
    have := sizeOf_blk hs
    exact hk.below (by omega) (fun x hx e => by rcases e with e | e <;> omega)

/-- Three facts on the decoder's own cells. -/
theorem DecAt.cells {w : World} {base D S rb ro n c : Nat} {tr : Value} {dfv emp : Bool} {k : Nat} (h : DecAt w base D S rb ro n c tr dfv emp k) :
    w.cell? ⟨D, 2, none⟩ = some .nilIface ∧ w.cell? ⟨D, 3, none⟩ = some (.slice (some ⟨S, 0, none⟩) 4096 4096) ∧ w.cell? ⟨D, 4, none⟩ = some tr ∧ w.cell? ⟨D, 5, none⟩ = some (.int .i64 k) ∧ w.cell? ⟨D, 6, none⟩ = some (.bool dfv) := by
  refine ⟨?_, ?_, ?_, ?_, ?_⟩ <;> rw [cellOf h.dec] <;> rfl

set_option maxRecDepth 100000 in
theorem decByte_any (w : World) (base D S rb ro n c : Nat) (tr : Value) (dfv emp : Bool) (k : Nat) (bs : List Int) (h : DecAt w base D S rb ro n c tr dfv emp k) (hin : Input w rb ro n c bs) (hkm : k + 1 ≤ n) :
    Calls Tryz.prog 77 #[.pointer (some ⟨D, 0, none⟩)] w fun e w' =>
      e = .returned (.int .u8 (bs[k]'(by have := hin.len; omega))) ∧ DecAt w' base D S rb ro n c tr dfv emp (k + 1) ∧ Keeps (fun x => x = D ∨ x = S) w w' ∧ Below base w w' := by
  obtain ⟨_, c3, _, _, _⟩ := h.cells
  go_enter Tryz.func77, Tryz.ntmps77
  go_wp2_with fail
  refine (readScr w base D S rb ro n c tr dfv emp k bs h hin 1 4096 (by decide) hkm).mono ?_
  rintro e w1 ⟨rfl, hd1, hc, hk, hb⟩
  have c0 := hc 0 (by decide)
  simp only [Nat.add_zero] at c0
  obtain ⟨_, c3, _, _, _⟩ := hd1.cells
  clear hc
  go_wp2
  go_ret
  exact ⟨rfl, hd1, hk, hb⟩
end Go.Proofs.YtipoenpakjpokaaGreatDoor
