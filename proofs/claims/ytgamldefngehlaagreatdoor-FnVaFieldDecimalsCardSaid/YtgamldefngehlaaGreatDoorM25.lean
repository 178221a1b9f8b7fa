/- Parts of the walk. -/
import Derived.Test.YtgamldefngehlaaGreatDoorM01
import Derived.Test.YtgamldefngehlaaGreatDoorM22
set_option linter.unusedVariables false
set_option linter.unusedSimpArgs false
namespace Go.Proofs.YtgamldefngehlaaGreatDoor
open Go.RowKit
theorem Tryz.info5size : (Tryz.prog.info? 5).map (·.size) = some 1 := by kernel_rfl
structure Input (w : World) (rb ro n c : Nat) (bs : List Int) : Prop where
 len : bs.length = n
 cap : n ≤ c
 big : c ≤ 9223372036854775807
 cell : ∀ j (h : j < bs.length), w.cell? ⟨rb, ro + j, none⟩ = some (.int .u8 bs[j])
theorem Input.kept {w w' : World} {T : Nat → Prop} {rb ro n c : Nat} {bs : List Int} (h : Input w rb ro n c bs) (hk : Keeps T w w') (hT : ¬ T rb) : Input w' rb ro n c bs :=
 ⟨h.len, h.cap, h.big, fun j hj => hk.cellS (h.cell j hj) hT⟩
theorem Input.below {w w' : World} {B rb ro n c : Nat} {bs : List Int} (h : Input w rb ro n c bs) (hk : Below B w w') (hT : rb < B) : Input w' rb ro n c bs :=
 ⟨h.len, h.cap, h.big, fun j hj => (hk.cell (p := ⟨rb, ro + j, none⟩) hT).trans (h.cell j hj)⟩
def TrBlkD (w : World) (tr : Value) : Prop := ∃ b, tr = .iface 157 (.pointer (some ⟨b, 0, none⟩)) ∧ w.heap[b]? = some (.cells #[.nilFunc] 288 (0, 0))
structure DecAt (w : World) (base D S rb ro n c : Nat) (tr : Value) (dfv emp : Bool) (k : Nat) : Prop where
 dec : w.heap[D]? = some (.cells #[.slice (some ⟨rb, ro, none⟩) n c, .int .i64 k, .nilIface, .slice (some ⟨S, 0, none⟩) 4096 4096, tr, .int .i64 k, .bool dfv, .bool emp] 121 (0, 0))
 scr : ∃ C : List Value, C.length = 4096 ∧ w.heap[S]? = some (.cells C.toArray 5 (0, 0))
 lo : base ≤ D ∧ base ≤ S
 tra : TrBlkD w tr
theorem DecAt.keep {w w' : World} {base D S rb ro n c : Nat} {tr : Value} {dfv emp : Bool} {k : Nat} (h : DecAt w base D S rb ro n c tr dfv emp k) (hb : Keeps (fun _ => False) w w') (hD : ¬ False) (hS : ¬ False) : DecAt w' base D S rb ro n c tr dfv emp k := by
 obtain ⟨C, hC, hs⟩ := h.scr
 obtain ⟨tb, te, ht⟩ := h.tra
 exact ⟨hb.at_ h.dec hD, ⟨C, hC, hb.at_ hs hS⟩, h.lo, ⟨tb, te, hb.at_ ht id⟩⟩
set_option maxRecDepth 100000 in
theorem readFull_any (w : World) (base D S rb ro n c : Nat) (tr : Value) (dfv emp : Bool) (k : Nat) (bs : List Int) (h : DecAt w base D S rb ro n c tr dfv emp k) (hin : Input w rb ro n c bs)
  (g m cc : Nat) (G : List Value) (hg : w.heap[g]? = some (.cells G.toArray 5 (0, 0))) (hm : m ≤ G.length) (hkm : k + m ≤ n) :
  Calls Tryz.prog 172 #[.pointer (some ⟨D, 0, none⟩), .slice (some ⟨g, 0, none⟩) m cc] w fun e w' =>
   e = .returned (.tuple #[.int .i64 m, .nilIface]) ∧ w'.heap[D]? = some (.cells #[.slice (some ⟨rb, ro, none⟩) n c, .int .i64 (k + m : Nat), .nilIface, .slice (some ⟨S, 0, none⟩) 4096 4096, tr, .int .i64 (k + m : Nat), .bool dfv, .bool emp] 121 (0, 0)) ∧
   w'.heap[g]? = some (.cells (splice G 0 (u8s ((bs.drop k).take m))).toArray 5 (0, 0)) ∧ Keeps (fun x => x = D ∨ x = g) w w' := by
 have hd := h.dec
 have hn := hin.len
 have hc := hin.cap
 have hbig := hin.big
 have d0 : w.cell? ⟨D, 0, none⟩ = some (.slice (some ⟨rb, ro, none⟩) n c) := by rw [cellOf hd]; rfl
 have d1 : w.cell? ⟨D, 1, none⟩ = some (.int .i64 k) := by rw [cellOf hd]; rfl
 have d2 : w.cell? ⟨D, 2, none⟩ = some .nilIface := by rw [cellOf hd]; rfl
 have d5 : w.cell? ⟨D, 5, none⟩ = some (.int .i64 k) := by rw [cellOf hd]; rfl
 have f1 : w.frozen? ⟨D, 1, none⟩ = false := frozenOf hd 1
 have f5 : w.frozen? ⟨D, 5, none⟩ = false := frozenOf hd 5
 obtain ⟨cs, hcs⟩ : ∃ cs, cs = u8s ((bs.drop k).take m) := ⟨_, rfl⟩
 have q : CopyFits w.drew (some ⟨g, 0, none⟩) (if c = k then some ⟨rb, ro, none⟩ else some ⟨rb, ro + k, none⟩) (n - k) m g 0 G cs m := by
  subst hcs
  refine ⟨by simp; omega, (Nat.min_eq_right (by omega)).symm, fun hp => ⟨rfl, _, if_neg (by omega), fun j v hj => ?_⟩, by omega, ?_⟩
  ·obtain ⟨hj', rfl⟩ := List.getElem?_eq_some_iff.1 hj
   simp only [List.length_map, List.length_take, List.length_drop, hn] at hj'
   simp only [List.getElem_map, List.getElem_take, List.getElem_drop]
   rw [Addr.add_lit, show ro + k + j = ro + (k + j) from by omega]
   exact hin.cell (k + j) (by omega)
  ·intro v hv; obtain ⟨_, _, rfl⟩ := List.mem_map.1 hv; rfl
 have hcs' := Lib.hid hcs; clear hcs
 have hn' := Lib.hid hn; clear hn
 have hkn : k ≤ n := by omega
 have hDg : Hid (D ≠ g) := fun e => by rw [← e, hd] at hg; simp at hg
 by_cases hck : c = k
 all_goals
  first | rw [if_pos hck] at q | rw [if_neg hck] at q
  obtain ⟨sp, hsp⟩ : ∃ sp, sp = (if c = k then some ⟨rb, ro, none⟩ else some ⟨rb, ro + k, none⟩ : Option Addr) := ⟨_, rfl⟩
  first | rw [if_pos hck] at hsp | rw [if_neg hck] at hsp
  rw [← hsp] at q
  subst hsp
  go_enter Tryz.func172, Tryz.ntmps172
  go_wp2_with fail
  go_region_law (refine step_copy_kept rfl (.tmp 16) (.tmp 25) 22 22 rfl 5 Tryz.underlying22 Tryz.info5size (some ⟨g, 0, none⟩) _ m cc (n - k) (c - k) (by simp [Act.eval, Act.put]) (by simp [Act.eval, Act.put, hck]) g 0 G 5 hg cs m q ?_; intro w1 hsp)
 all_goals
  have hd1 : w1.heap[D]? = _ := hsp.2.at_ (w := w.drew) hd hDg.out
  have e1 : w1.cell? ⟨D, 1, none⟩ = some (.int .i64 k) := by rw [cellOf hd1]; rfl
  have e2 : w1.cell? ⟨D, 2, none⟩ = some .nilIface := by rw [cellOf hd1]; rfl
  have e5 : w1.cell? ⟨D, 5, none⟩ = some (.int .i64 k) := by rw [cellOf hd1]; rfl
  have g1 : w1.frozen? ⟨D, 1, none⟩ = false := frozenOf hd1 1
  have g5 : w1.frozen? ⟨D, 5, none⟩ = false := frozenOf hd1 5
  go_wp2
  go_ret2
  refine ⟨rfl, ?_, ?_, ?_⟩
  ·have := blk_setCell (blk_setCell hd1 1 (.int .i64 ((k : Int) + m))) 5 (.int .i64 ((k : Int) + m))
   simpa using this
  ·rw [blk_setCell_ne (fun e => hDg.out e.symm), blk_setCell_ne (fun e => hDg.out e.symm), hsp.1, hcs'.out]
  ·exact (((Keeps.refl _ w).drew.trans hsp.2 (fun _ _ e => .inr e)).setCell _ _ (fun _ => .inl rfl)).setCell _ _ (fun _ => .inl rfl)
end Go.Proofs.YtgamldefngehlaaGreatDoor
namespace Go.Proofs.YtgamldefngehlaaGreatDoor
open Go.RowKit
def TrD (tr : Value) : Prop := ∃ a, tr = .iface 157 (.pointer (some a))
set_option maxRecDepth 100000 in
theorem decoder_any (w : World) (rb ro n c : Nat) (dfv emp : Bool) :
  Calls Tryz.prog 27 #[.slice (some ⟨rb, ro, none⟩) n c, .bool dfv, .bool emp] w fun e w' =>
   ∃ D S tr, e = .returned (.pointer (some ⟨D, 0, none⟩)) ∧ TrD tr ∧ DecAt w' w.heap.size D S rb ro n c tr dfv emp 0 ∧ Below w.heap.size w w' := by
 have hmk := make4k
 go_enter Tryz.func27, Tryz.ntmps27
 go_wp2
 go_end0
 go_wp2
 go_ret
 refine ⟨w.heap.size + 1 + 1, w.heap.size + 1, .iface 157 (.pointer (some ⟨w.heap.size, 0, none⟩)), rfl, ⟨_, rfl⟩, ⟨?_, ⟨zeros4k.toList, by rw [Array.length_toList, zeros4k_size], ?_⟩, ⟨by omega, by omega⟩, ⟨w.heap.size, rfl, blk_alloc (blk_alloc (blk_new _ _) _) _⟩⟩, ?_⟩
 ·exact blk_new' _ _ _ (by simp)
 ·rw [zeros4k_list]; exact blk_alloc (blk_new' _ _ _ (by simp)) _
 ·exact (((Below.refl _ _).alloc (Nat.le_refl _) _).alloc (by simp) _).alloc (by simp; omega) _
theorem splice_get {G cs : List Value} (j : Nat) (h : j < cs.length) : (splice G 0 cs)[j]? = cs[j]? := by
 simp [splice, List.getElem?_append_left h]
set_option maxRecDepth 100000 in
theorem readScr (w : World) (base D S rb ro n c : Nat) (tr : Value) (dfv emp : Bool) (k : Nat) (bs : List Int) (h : DecAt w base D S rb ro n c tr dfv emp k) (hin : Input w rb ro n c bs) (m cc : Nat) (hm : m ≤ 4096) (hkm : k + m ≤ n) :
  Calls Tryz.prog 172 #[.pointer (some ⟨D, 0, none⟩), .slice (some ⟨S, 0, none⟩) m cc] w fun e w' =>
   e = .returned (.tuple #[.int .i64 m, .nilIface]) ∧ DecAt w' base D S rb ro n c tr dfv emp (k + m) ∧ (∀ j (hj : j < m), w'.cell? ⟨S, j, none⟩ = some (.int .u8 (bs[k + j]'(by have := hin.len; omega)))) ∧ Keeps (fun x => x = D ∨ x = S) w w' ∧ Below base w w' := by
 obtain ⟨C, hC, hs⟩ := h.scr
 refine (readFull_any w base D S rb ro n c tr dfv emp k bs h hin S m cc C hs (by omega) hkm).mono ?_
 rintro e w' ⟨rfl, hd, hg, hk⟩
 have hl := hin.len
 have hsl : (splice C 0 (u8s ((bs.drop k).take m))).length = 4096 := by
  rw [length_splice _ _ _ (by simp; omega), hC]
 obtain ⟨tb, te, ht⟩ := h.tra
 have hTD : tb ≠ D := fun e => by have := h.dec; rw [← e, ht] at this; simp at this
 have hTS : tb ≠ S := fun e => by rw [← e, ht] at hs; simp at hs
 refine ⟨rfl, ⟨hd, ⟨_, hsl, hg⟩, h.lo, ⟨tb, te, hk.at_ ht (fun x => x.elim hTD hTS)⟩⟩, fun j hj => ?_, hk, ?_⟩
 ·rw [cellOf hg, List.getElem?_toArray, splice_get j (by simp; omega)]
  simp [List.getElem?_eq_getElem (show k + j < bs.length by omega), hj]
 ·have := h.lo
  have := sizeOf_blk hs
  exact hk.below (by omega) (fun x hx e => by rcases e with e | e <;> omega)
theorem DecAt.cells {w : World} {base D S rb ro n c : Nat} {tr : Value} {dfv emp : Bool} {k : Nat} (h : DecAt w base D S rb ro n c tr dfv emp k) :
  w.cell? ⟨D, 2, none⟩ = some .nilIface ∧ w.cell? ⟨D, 3, none⟩ = some (.slice (some ⟨S, 0, none⟩) 4096 4096) ∧ w.cell? ⟨D, 4, none⟩ = some tr ∧ w.cell? ⟨D, 5, none⟩ = some (.int .i64 k) ∧ w.cell? ⟨D, 6, none⟩ = some (.bool dfv) := by
 refine ⟨?_, ?_, ?_, ?_, ?_⟩ <;> rw [cellOf h.dec] <;> rfl
set_option maxRecDepth 100000 in
theorem decByte_any (w : World) (base D S rb ro n c : Nat) (tr : Value) (dfv emp : Bool) (k : Nat) (bs : List Int) (h : DecAt w base D S rb ro n c tr dfv emp k) (hin : Input w rb ro n c bs) (hkm : k + 1 ≤ n) :
  Calls Tryz.prog 95 #[.pointer (some ⟨D, 0, none⟩)] w fun e w' =>
   e = .returned (.int .u8 (bs[k]'(by have := hin.len; omega))) ∧ DecAt w' base D S rb ro n c tr dfv emp (k + 1) ∧ Keeps (fun x => x = D ∨ x = S) w w' ∧ Below base w w' := by
 obtain ⟨_, c3, _, _, _⟩ := h.cells
 go_enter Tryz.func95, Tryz.ntmps95
 go_wp2_with fail
 refine (readScr w base D S rb ro n c tr dfv emp k bs h hin 1 4096 (by decide) hkm).mono ?_
 rintro e w1 ⟨rfl, hd1, hc, hk, hb⟩
 have c0 := hc 0 (by decide)
 simp only [Nat.add_zero] at c0
 obtain ⟨_, c3, _, _, _⟩ := hd1.cells
 clear hc
 go_wp2
 go_ret
 exact ⟨rfl, hd1, hk, hb⟩
end Go.Proofs.YtgamldefngehlaaGreatDoor
