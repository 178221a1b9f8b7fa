/- Texts: valOf at bytes. -/
import Derived.Test.YtipoenpakjpokaaGreatDoorTxt9
import Derived.Test.YtipoenpakjpokaaGreatDoorIntsRd
set_option linter.unusedVariables false
set_option linter.unusedSimpArgs false
namespace Go.Proofs.YtipoenpakjpokaaGreatDoor
open Go.RowKit

theorem row_lower {w : World} {base base' : Nat} {e : TypeId} {size n : Nat} {v : Value} {xs : List Value} (h : w.ownsRow base e size v n xs) (hb : base' ≤ base) : w.ownsRow base' e size v n xs :=
  ⟨h.1, h.2.imp id fun ⟨g, cap, cur, a, b, r⟩ => ⟨g, cap, cur, a, Nat.le_trans hb b, r⟩⟩
theorem slice_of {w : World} {base : Nat} {e : TypeId} {size n : Nat} {v : Value} {xs : List Value} (h : w.ownsRow base e size v n xs) : ∃ A m c, v = .slice A m c := by
  obtain ⟨_, ⟨rfl, _⟩ | ⟨g, cap, cur, rfl, _⟩⟩ := h
  · exact ⟨_, _, _, rfl⟩
  · exact ⟨_, _, _, rfl⟩

set_option maxRecDepth 100000 in
set_option maxHeartbeats 1000000 in
theorem valOf4 (w : World) (b n c : Nat) (ts : List Int) (hin : Input w b 0 n c ts) (hb : b < w.heap.size) (hn : n ≤ 3000) : Calls Tryz.prog 21 #[.iface 22 (.slice (some ⟨b, 0, none⟩) n c)] w fun e w' =>
    ∃ v, e = .returned (.agg (plainVal 4 false 0 0 v)) ∧ w'.ownsRow w.heap.size 5 1 v n (u8s ts) ∧ Below w.heap.size w w' := by
  go_enter Tryz.func21, Tryz.ntmps21
  have q : (w.alloc (.cells noVal 36)).heap[w.heap.size]? = some (.cells noVal 36 (0, 0)) := blk_new _ _
  obtain ⟨W0, hW0⟩ : ∃ W, W = w.alloc (.cells noVal 36) := ⟨_, rfl⟩
  have hb0 : Below w.heap.size w W0 := by rw [hW0]; exact (Below.refl _ w).alloc (Nat.le_refl _) _
  have z0 : w.heap.size + 1 = W0.heap.size := by rw [hW0]; simp
  rw [← hW0] at q
  obtain ⟨i0, hi0, hz0, hz1, hz2⟩ := info_parts Tryz.info5
  have hE : (W0.alloc (.cells #[] 5)).ownsRow W0.heap.size 5 1 (.slice (some ⟨W0.heap.size, 0, none⟩) 0 0) 0 (u8s []) := World.ownsRow_lit W0 #[] 0 (Nat.le_refl _) (by decide) rfl
  have hb1 : Below W0.heap.size W0 (W0.alloc (.cells #[] 5)) := (Below.refl _ W0).alloc (Nat.le_refl _) _
  have hN := Lib.hid (Input.news ((hin.below hb0 hb).below hb1 (by omega)))
  have hlen := Lib.hid hin.len
  have hE' := Lib.hid hE
  have hW0' := Lib.hid hW0
  have z0' := Lib.hid z0
  have hb0' := Lib.hid hb0
  have hb1' := Lib.hid hb1
  have q' := Lib.hid q
  clear hE hin q hb0 hb1 z0 hW0
  go_wp2_with (first
    | (at_builtin
       change wpList _ _ _ _ _ ((w.alloc (.cells noVal 36)).alloc (.cells #[] 5))
       rw [← hW0'.out]
       refine wpList_append_own_at _ rfl (.tmp 38) (.tmp 39) 22 rfl W0.heap.size 5 i0 _ 1 1 Tryz.underlying22 hi0 hz0 hz1 hz2 rfl (by decide) (.slice (some ⟨W0.heap.size, 0, none⟩) 0 0) 0 (u8s []) (by rw [← z0'.out]; rfl) hE'.out ⟨b, 0, none⟩ n c (u8s ts) rfl (by simpa using hlen.out) hN.out (u8s_one _) (by unfold maxLen; omega) (by omega) (by simp) ?_
       intro v7 w7 hown7 hgrow7 hnil7 hat7
       obtain ⟨A7, m7, c7, hv7⟩ := slice_of hown7
       have hb7 := Lib.hid (hb1'.out.grown hgrow7 (by first | exact Nat.le_refl _ | simp) (fun x hx => by simp [Value.ownBlock] at hx; omega))
       have q7 := (hb7.out.block w.heap.size (by have := z0'.out; omega)).trans q'.out
       replace hown7 := Lib.hid hown7
       clear hnil7 hat7 hgrow7
       subst hv7)
    | (refine store_val rfl (.tmp 2) _ rfl _ rfl (plainVal 4 false 0 0 (.slice _ _ _)) rfl noVal (by assumption) rfl rfl (plain1 _ _ _ _ _ _ _) ?_))
  have hb8 : Below w.heap.size w7 (w7.setRow w.heap.size (plainVal 4 false 0 0 (.slice A7 m7 c7))) := below_setRow (Below.refl _ w7) (Nat.le_refl _) _
  have hk8 : Keeps (fun k => k = w.heap.size) w7 (w7.setRow w.heap.size (plainVal 4 false 0 0 (.slice A7 m7 c7))) := ⟨hb8.os, hb8.tape, hb8.output, hb8.size, fun k hk hT => setRow_other _ _ _ _ (by omega)⟩
  have z0 := z0'.out
  have ho8 := row_lower (base' := w.heap.size) (hk8.ownsRow hown7.out (fun k hk e => by have := (hown7.out.lt k hk).1; omega)) (by omega)
  rw [show u8s [] ++ u8s ts = u8s ts from rfl] at ho8
  simp only [Nat.zero_add] at ho8
  exact ⟨rfl, _, results_val _ _ _ rfl (setRow_heap _ _ _ _ _ _ q7) _ rfl, ⟨_, rfl, ho8, (hb0'.out.trans (hb7.out.mono (by omega))).trans hb8⟩⟩
end Go.Proofs.YtipoenpakjpokaaGreatDoor
