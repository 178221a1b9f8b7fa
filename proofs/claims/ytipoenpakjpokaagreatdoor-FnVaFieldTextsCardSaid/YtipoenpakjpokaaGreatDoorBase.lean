/- What a call keeps, and small words on blocks of memory: plain lemmas on the model's worlds, for the texts that walk this seat's functions. -/
import Derived.Test.YtipoenpakjpokaaGreatDoorProg
import Derived.WalkKit
import Derived.WalkLawsBesides
import Derived.WalkSpells
import Derived.BigQuiet
import Derived.Deep.QuietTactic
import Derived.Deep.DeepFit
import Derived.Deep.DeepMust
import Derived.Deep.LoopGhost
import Derived.Deep.OwnRows
import Derived.Deep.AppendSrc
import Derived.Laws.CopyOwn
import Derived.Laws.Rows
import Derived.Laws.OwnMore
import Derived.Lib.Hide
import Derived.Maps.AppendAt
set_option linter.unusedVariables false
set_option linter.unusedSimpArgs false
namespace Go.Proofs.YtipoenpakjpokaaGreatDoor
open Go.RowKit

/-- A number as its kind's values. -/
abbrev u8s (xs : List Int) : List Value := xs.map (Value.int .u8)

/-- A block's cell, out of the block. -/
theorem cellOf {w : World} {b : Nat} {C : Array Value} {t : TypeId} {fr : Nat × Nat} (h : w.heap[b]? = some (.cells C t fr)) (i : Nat) : w.cell? ⟨b, i, none⟩ = C[i]? := by
  simp [World.cell?, h]
theorem frozenOf {w : World} {b : Nat} {C : Array Value} {t : TypeId} (h : w.heap[b]? = some (.cells C t (0, 0))) (i : Nat) : w.frozen? ⟨b, i, none⟩ = false := by
  simp [World.frozen?, h]
theorem sizeOf_blk {w : World} {b : Nat} {o : Obj} (h : w.heap[b]? = some o) : b < w.heap.size := (Array.getElem?_eq_some_iff.1 h).1

theorem blk_setCell {w : World} {b : Nat} {C : Array Value} {t : TypeId} {fr : Nat × Nat} (h : w.heap[b]? = some (.cells C t fr)) (i : Nat) (v : Value) :
    (w.setCell ⟨b, i, none⟩ v).heap[b]? = some (.cells (C.setIfInBounds i v) t fr) := by
  simp [World.setCell, Array.getElem?_modify, h]
theorem blk_setCell_ne {w : World} {b : Nat} {a : Addr} (h : b ≠ a.block) (v : Value) : (w.setCell a v).heap[b]? = w.heap[b]? := by
  simp only [World.setCell, Array.getElem?_modify]
  rw [if_neg (fun e => h e.symm)]
theorem blk_alloc {w : World} {b : Nat} {o : Obj} (h : w.heap[b]? = some o) (o' : Obj) : (w.alloc o').heap[b]? = some o := by
  rw [Below.heap_alloc _ _ _ (sizeOf_blk h)]; exact h
theorem blk_new (w : World) (o : Obj) : (w.alloc o).heap[w.heap.size]? = some o := by
  show (w.heap.push o)[w.heap.size]? = _
  simp

theorem blk_new' (w : World) (o : Obj) (n : Nat) (h : w.heap.size = n) : (w.alloc o).heap[n]? = some o := by subst h; exact blk_new w o
/-- All blocks are as they were but those of T, and what is new. -/
structure Keeps (T : Nat → Prop) (w w' : World) : Prop where
  os : w'.os = w.os
  tape : w'.tape = w.tape
  output : w'.output = w.output
  size : w.heap.size ≤ w'.heap.size
  blk : ∀ k, k < w.heap.size → ¬ T k → w'.heap[k]? = w.heap[k]?
namespace Keeps
variable {T T' : Nat → Prop} {w w' w'' : World}
theorem refl (T : Nat → Prop) (w : World) : Keeps T w w := ⟨rfl, rfl, rfl, Nat.le_refl _, fun _ _ _ => rfl⟩
/-- What the second step turns is what the first lets turn, or new. -/
theorem trans (h : Keeps T w w') (h' : Keeps T' w' w'') (hs : ∀ k, k < w.heap.size → T' k → T k) : Keeps T w w'' :=
  ⟨h'.os.trans h.os, h'.tape.trans h.tape, h'.output.trans h.output, Nat.le_trans h.size h'.size, fun k hk hT => (h'.blk k (Nat.lt_of_lt_of_le hk h.size) (fun x => hT (hs k hk x))).trans (h.blk k hk hT)⟩
theorem mono (h : Keeps T w w') (hs : ∀ k, k < w.heap.size → T k → T' k) : Keeps T' w w' := ⟨h.os, h.tape, h.output, h.size, fun k hk hT => h.blk k hk (fun x => hT (hs k hk x))⟩
theorem alloc (h : Keeps T w w') (o : Obj) : Keeps T w (w'.alloc o) :=
  ⟨h.os, h.tape, h.output, by have := h.size; simp; omega, fun k hk hT => (Below.heap_alloc _ _ _ (Nat.lt_of_lt_of_le hk h.size)).trans (h.blk k hk hT)⟩
theorem drew (h : Keeps T w w') : Keeps T w w'.drew := ⟨h.os, h.tape, h.output, h.size, h.blk⟩
theorem drewN (h : Keeps T w w') (n : Nat) : Keeps T w (w'.drewN n) := ⟨h.os, h.tape, h.output, h.size, h.blk⟩
theorem setCell (h : Keeps T w w') (a : Addr) (v : Value) (ha : a.block < w.heap.size → T a.block) : Keeps T w (w'.setCell a v) :=
  ⟨h.os, h.tape, h.output, by have := h.size; simpa using this, fun k hk hT => (Below.heap_setCell _ _ _ _ (fun e => hT (by subst e; exact ha hk))).trans (h.blk k hk hT)⟩
theorem grown (h : Keeps T w w') {row : Option Nat} (hg : w'.grownBy w'' row) (hr : ∀ k, k < w.heap.size → row = some k → T k) : Keeps T w w'' :=
  ⟨hg.os.trans h.os, hg.tape.trans h.tape, hg.output.trans h.output, Nat.le_trans h.size hg.size, fun k hk hT => (hg.block k (Nat.lt_of_lt_of_le hk h.size) (fun e => hT (hr k hk e.symm))).trans (h.blk k hk hT)⟩
theorem below {B : Nat} (h : Keeps T w w') (hB : B ≤ w.heap.size) (hT : ∀ k, k < B → ¬ T k) : Below B w w' := ⟨h.os, h.tape, h.output, h.size, fun k hk => h.blk k (by omega) (hT k hk)⟩
theorem at_ (h : Keeps T w w') {k : Nat} {o : Obj} (hk : w.heap[k]? = some o) (hT : ¬ T k) : w'.heap[k]? = some o := (h.blk k (sizeOf_blk hk) hT).trans hk
theorem cell (h : Keeps T w w') {a : Addr} (ha : a.block < w.heap.size) (hT : ¬ T a.block) : w'.cell? a = w.cell? a := World.cell?_of_block (h.blk _ ha hT)
theorem cellS (h : Keeps T w w') {a : Addr} {v : Value} (hc : w.cell? a = some v) (hT : ¬ T a.block) : w'.cell? a = some v := (h.cell (World.block_lt_of_cell? _ _ hc) hT).trans hc
theorem frozen (h : Keeps T w w') {a : Addr} (ha : a.block < w.heap.size) (hT : ¬ T a.block) : w'.frozen? a = w.frozen? a := World.frozen?_of_block (h.blk _ ha hT)
theorem ownsRow (h : Keeps T w w') {base : Nat} {e : TypeId} {size : Nat} {v : Value} {n : Nat} {xs : List Value} (ho : w.ownsRow base e size v n xs) (hT : ∀ k, v.ownBlock = some k → ¬ T k) : w'.ownsRow base e size v n xs := by
  obtain ⟨h1, h2⟩ := ho
  refine ⟨h1, ?_⟩
  rcases h2 with h2 | ⟨g, cap, cur, hv, hg, hh, r⟩
  · exact .inl h2
  · exact .inr ⟨g, cap, cur, hv, hg, h.at_ hh (hT g (by simp [hv, Value.ownBlock])), r⟩
end Keeps
theorem ownsRow_slice {w : World} {base n : Nat} {e : TypeId} {size : Nat} {v : Value} {xs : List Value} (h : w.ownsRow base e size v n xs) : ∃ A c, v = .slice A n c := by
  rcases h.2 with ⟨rfl, rfl⟩ | ⟨g, cap, cur, rfl, _⟩
  · exact ⟨none, 0, rfl⟩
  · exact ⟨_, cap, rfl⟩
/-- A block of another element type is no owned row's. -/
theorem ownBlock_ne {w : World} {base n : Nat} {e : TypeId} {size : Nat} {v : Value} {xs : List Value} (h : w.ownsRow base e size v n xs) {b : Nat} {C : Array Value} {t : TypeId} {fr : Nat × Nat}
    (hb : w.heap[b]? = some (.cells C t fr)) (ht : t ≠ e) : some b ≠ v.ownBlock := by
  rcases h.2 with ⟨rfl, rfl⟩ | ⟨g, cap, cur, rfl, _, hh, _⟩
  · simp [Value.ownBlock]
  · intro hk
    have : b = g := by simpa [Value.ownBlock] using hk
    subst this
    rw [hh] at hb
    injection hb with hb
    injection hb with _ h2
    exact ht h2.symm

end Go.Proofs.YtipoenpakjpokaaGreatDoor
