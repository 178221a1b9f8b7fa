/- An argument that is a slice of bytes: how it is opened, and that it reads on as it read. -/
import Derived.Test.YtgamldefngehlaaGreatDoorM01
import Derived.Laws.Cover2
import Derived.ChangeSlices
import Derived.WideShapes
set_option linter.unusedVariables false
set_option linter.unusedSimpArgs false
namespace Go.Proofs.YtgamldefngehlaaGreatDoor
open Go.ChangeShapes Go.WideShapes Go.ChangeAt Go.RowKit
section
variable {H : Type} {enc : TypeId × Value → H} {P : Program} {w : World} {held : Bool}
inductive U8Arg (w : World) : Value → DataW H → List MemPlace → Prop
 | isNil : U8Arg w (.slice none 0 0) .nil []
 | isSome (a : Addr) (len cap : Nat) (zs : List Int) (hl : len ≤ cap) (hm : cap ≤ maxLen) (hz : zs.length = cap) (hcell : ∀ i, i < zs.length → w.cell? (a.add i) = some (.int .u8 (zs.getD i 0))) (hwf : ∀ n ∈ zs, (Lit.int .u8 n).wf = true) :
   U8Arg w (.slice (some a) len cap) (.slice (lits .u8 (zs.take len)) (lits .u8 (zs.drop len))) (MemPlace.row a zs.length)
theorem open_u8cells {t e : TypeId} {fuel : Nat} {cs : List Value} {x : DataW H × List MemPlace} (ht : P.underlying t = some (.slice e)) (he : P.underlying e = some (.int .u8)) (hc : P.cellsOf e = 1)
  (h : DataW.trod enc P w 0 (fun _ => true) held fuel t cs = some x) : ∃ v, cs = [v] ∧ U8Arg w v x.1 x.2 := by
 rcases open_ints ht he hc h with ⟨rfl, rfl⟩ | ⟨a, len, cap, zs, rfl, _, hl, hm, hz, rfl, hcell, hw⟩
 ·exact ⟨_, rfl, .isNil⟩
 ·simp only [if_true] at hz
  exact ⟨_, rfl, .isSome a len cap zs hl hm hz hcell hw⟩
theorem U8Arg.keep {t e : TypeId} {v : Value} {d : DataW H} {p : List MemPlace} {w' : World} (h : U8Arg w v d p) (ht : P.underlying t = some (.slice e)) (he : P.underlying e = some (.int .u8)) (hc : P.cellsOf e = 1)
  (hb : Below w.heap.size w w') (hlt : ∀ q ∈ p, q.block < w.heap.size) (sp : Nat → Bool) (hsp : ∀ q ∈ p, sp q.block = true) : DataW.trod enc P w' 0 sp held 2 t [v] = some (d, p) := by
 cases h with
 | isNil => simp [DataW.trod, ht]
 | isSome a len cap zs hl hm hz hcell hwf =>
  have hin : 0 < zs.length → a.block < w.heap.size ∧ sp a.block = true := fun h0 => by
   obtain ⟨b, off, spot⟩ := a
   have hspot : spot = none := World.cell?_spot (by simpa [Addr.add] using hcell 0 h0)
   subst hspot
   have hm : MemPlace.cell b off ∈ MemPlace.row ⟨b, off, none⟩ zs.length := MemPlace.mem_row.2 ⟨0, h0, by simp⟩
   exact ⟨hlt _ hm, hsp _ hm⟩
  refine shut_ints 0 ht he hc (Nat.zero_le _) hl hm ?_ ?_ hwf
  ·by_cases h0 : 0 < zs.length
   ·rw [(hin h0).2]; exact hz
   ·have : cap = 0 := by omega
    subst this
    have : len = 0 := by omega
    subst this
    rw [hz]; split <;> rfl
  ·intro i hi
   rw [← hcell i hi]
   exact hb.cell (p := a.add i) (by rw [block_add]; exact (hin (by omega)).1)
end
end Go.Proofs.YtgamldefngehlaaGreatDoor
