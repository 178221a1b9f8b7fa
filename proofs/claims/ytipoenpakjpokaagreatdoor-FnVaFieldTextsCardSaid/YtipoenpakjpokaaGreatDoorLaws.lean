/- copy onto a row that is known whole, told by 'Keeps': in a list of operations, and as one step of a region that draws its order. -/
import Derived.Test.YtipoenpakjpokaaGreatDoorBase
set_option linter.unusedVariables false
set_option linter.unusedSimpArgs false
namespace Go.Proofs.YtipoenpakjpokaaGreatDoor
open Go.RowKit
open Go

/-- The row behind a copy. -/
def Spliced (g : Nat) (t : TypeId) (cur : List Value) (off : Nat) (cs : List Value) (w w' : World) : Prop :=
  w'.heap[g]? = some (.cells (splice cur off cs).toArray t (0, 0)) ∧ Keeps (fun k => k = g) w w'

theorem splice_nil {α : Type} (L : List α) (off : Nat) : splice L off [] = L := by simp [splice]
theorem spliced_none {g : Nat} {t : TypeId} {cur : List Value} {off : Nat} {w : World} (hg : w.heap[g]? = some (.cells cur.toArray t (0, 0))) : Spliced g t cur off [] w w :=
  ⟨by rw [splice_nil]; exact hg, Keeps.refl _ _⟩
theorem spliced_row {g : Nat} {t : TypeId} {cur : List Value} {off : Nat} {cs : List Value} {w : World} (hg : w.heap[g]? = some (.cells cur.toArray t (0, 0))) :
    Spliced g t cur off cs w (w.setRow g (cur.toArray.toList.take off ++ (cs ++ cur.toArray.toList.drop (off + cs.length))).toArray) :=
  ⟨setRow_heap w g _ _ t _ hg, ⟨rfl, rfl, rfl, by simp [World.setRow], fun k _ hk => setRow_other w g k _ hk⟩⟩

/-- What a copy asks, in one word that the walk's simp leaves alone: m cells cs go over, from sp on to the place off of row g. -/
structure CopyFits (w : World) (dp sp : Option Addr) (sLen dLen g off : Nat) (cur cs : List Value) (m : Nat) : Prop where
  len : cs.length = m
  num : m = Nat.min sLen dLen
  pos : 0 < m → dp = some ⟨g, off, none⟩ ∧ ∃ ad, sp = some ad ∧ ∀ j v, cs[j]? = some v → w.cell? (ad.add j) = some v
  fit : off + m ≤ cur.length
  one : ∀ v ∈ cs, v.oneCell' = true

theorem wpList_copy_kept {P : Program} {w : World} {ops : Array Oper} {rest : List Oper} {o : Oper} {a : Act} {Q : Exit → Act → World → Prop} (hgd : o.guard = none) (d s : Operand) (dT sT : TypeId)
    (ho : o.op = .call { callee := .builtin .copy, args := #[d, s], argTypes := #[dT, sT] }) (elem : TypeId) (hu : P.underlying dT = some (.slice elem)) (hsz : (P.info? elem).map (·.size) = some 1)
    (dp sp : Option Addr) (dLen dCap sLen sCap : Nat) (hd : a.eval d = .slice dp dLen dCap) (hs : a.eval s = .slice sp sLen sCap)
    (g off : Nat) (cur : List Value) (t : TypeId) (hg : w.heap[g]? = some (.cells cur.toArray t (0, 0))) (cs : List Value) (m : Nat) (hf : CopyFits w dp sp sLen dLen g off cur cs m)
    (h : ∀ w', Spliced g t cur off cs w w' → wpList P ops Q rest (a.put o.dst (goInt m)) w') :
    wpList P ops Q (o :: rest) a w := by
  obtain ⟨rfl, hn, hpos, hfit, h1⟩ := hf
  by_cases h0 : cs.length = 0
  · obtain rfl : cs = [] := List.eq_nil_of_length_eq_zero h0
    refine wpList_copy_nothing hgd d s dT sT ho elem hu hsz dp sp dLen dCap sLen sCap hd hs (by simpa using hn.symm) ?_
    exact h w (spliced_none hg)
  · obtain ⟨rfl, ad, rfl, hsrc⟩ := hpos (by omega)
    refine wpList_copy_own hgd d s dT sT ho elem hu hsz g off dLen dCap ad sLen sCap hd hs cur.toArray t hg cs hn hsrc (by simpa using hfit) h1 ?_
    exact h _ (spliced_row hg)

theorem step_copy_kept {P : Program} {ops : Array Oper} {o : Oper} {a : Act} {w : World} {K : Act → World → Prop} {Q : Exit → Act → World → Prop} {E : Prop} (hgd : o.guard = none) (d s : Operand) (dT sT : TypeId)
    (ho : o.op = .call { callee := .builtin .copy, args := #[d, s], argTypes := #[dT, sT] }) (elem : TypeId) (hu : P.underlying dT = some (.slice elem)) (hsz : (P.info? elem).map (·.size) = some 1)
    (dp sp : Option Addr) (dLen dCap sLen sCap : Nat) (hd : a.eval d = .slice dp dLen dCap) (hs : a.eval s = .slice sp sLen sCap)
    (g off : Nat) (cur : List Value) (t : TypeId) (hg : w.heap[g]? = some (.cells cur.toArray t (0, 0))) (cs : List Value) (m : Nat) (hf : CopyFits w dp sp sLen dLen g off cur cs m)
    (h : ∀ w', Spliced g t cur off cs w w' → K (a.put o.dst (goInt m)) w') :
    if Region.wanted o (yielded ops a.tmps) = true then Oper.wp P o a w K Q else E := by
  have hw : Region.wanted o (yielded ops a.tmps) = true := by simp [Region.wanted, hgd]
  rw [if_pos hw]
  obtain ⟨rfl, hn, hpos, hfit, h1⟩ := hf
  by_cases h0 : cs.length = 0
  · obtain rfl : cs = [] := List.eq_nil_of_length_eq_zero h0
    have hrun := run_copy_none (P := P) w dT sT o.type elem dp sp dLen dCap sLen sCap hu hsz (by simpa using hn.symm)
    unfold Oper.wp
    simp [execOp, ho, resolve, invoke, builtin, hd, hs, hrun, Result.andThen]
    exact h w (spliced_none hg)
  · obtain ⟨rfl, ad, rfl, hsrc⟩ := hpos (by omega)
    have hrun := run_copy_row (P := P) w dT sT o.type elem g off dLen dCap ad sLen sCap cur.toArray t cs hu hsz hg hn hsrc (by simpa using hfit) h1
    unfold Oper.wp
    simp [execOp, ho, resolve, invoke, builtin, hd, hs, hrun, Result.andThen]
    have h2 := h _ (spliced_row hg)
    simp only [List.toList_toArray] at h2
    exact h2
end Go.Proofs.YtipoenpakjpokaaGreatDoor
