/- The writer and the encoder: what their methods do to memory. -/
import Derived.Test.YtipoenpakjpokaaGreatDoorBase
set_option linter.unusedVariables false
set_option linter.unusedSimpArgs false
namespace Go.Proofs.YtipoenpakjpokaaGreatDoor
open Go.RowKit

theorem Tryz.info5 : (Tryz.prog.info? 5).map (fun i => (i.zero, i.size, i.bytes)) = some (some (.int .u8 0), 1, 1) := by kernel_rfl

/-- The writer at block W holds the bytes xs: its slice is v, a row of its own from block base on. -/
structure WrAt (w : World) (base W : Nat) (v : Value) (xs : List Int) : Prop where
  blk : w.heap[W]? = some (.cells #[v] 46 (0, 0))
  own : w.ownsRow base 5 1 v xs.length (u8s xs)

set_option maxRecDepth 100000 in
theorem write_any (w : World) (base W : Nat) (v : Value) (xs ys : List Int) (hw : WrAt w base W v xs) (hbW : base ≤ W) (b o n c : Nat) (hn : ys.length = n) (hy : ∀ j (h : j < ys.length), w.cell? ⟨b, o + j, none⟩ = some (.int .u8 ys[j]))
    (hl : xs.length + ys.length ≤ 1000000) :
    Calls Tryz.prog 90 #[.pointer (some ⟨W, 0, none⟩), .slice (some ⟨b, o, none⟩) n c] w fun e w' =>
      e = .returned (.tuple #[.int .i64 n, .nilIface]) ∧ ∃ v', WrAt w' base W v' (xs ++ ys) ∧ Keeps (fun k => k = W ∨ some k = v.ownBlock) w w' ∧ (v'.ownBlock = v.ownBlock ∨ v'.ownBlock = some w.heap.size) := by
  subst hn
  obtain ⟨i0, hi, hz0, hz1, hz2⟩ := info_parts Tryz.info5
  obtain ⟨hv, hown⟩ := hw
  have hc : w.cell? ⟨W, 0, none⟩ = some v := by rw [cellOf hv]; rfl
  have hf : w.frozen? ⟨W, 0, none⟩ = false := frozenOf hv 0
  have hW := sizeOf_blk hv
  go_enter Tryz.func90, Tryz.ntmps90
  go_wp2_with (at_builtin; refine wpList_append_own_at _ rfl (.tmp 10) (.tmp 11) 22 rfl base 5 i0 (.int .u8 0) 1 1 Tryz.underlying22 hi hz0 hz1 hz2 rfl (by decide) _ _ _ rfl hown ⟨b, o, none⟩ _ _ (u8s ys) rfl (by simp) ?c1 ?c2 ?c3 ?c4 ?c5 ?_)
  case c1 =>
    intro j u hj
    obtain ⟨hj', rfl⟩ := List.getElem?_eq_some_iff.1 hj
    simp only [List.length_map] at hj'
    have := hy j hj'
    simp only [List.getElem_map]
    rw [Addr.add_lit]; exact this
  case c2 => intro u hu; simp at hu; obtain ⟨_, _, rfl⟩ := hu; rfl
  case c3 => unfold maxLen; omega
  case c4 => omega
  case c5 => omega
  intro v' w1 hown' hgrow hnil hat
  obtain ⟨A', c', rfl⟩ := ownsRow_slice hown'
  have hne := ownBlock_ne hown hv (by decide)
  have hv1 := (hgrow.block W hW hne).trans hv
  have hc1 : w1.cell? ⟨W, 0, none⟩ = some v := by rw [cellOf hv1]; rfl
  have hf1 : w1.frozen? ⟨W, 0, none⟩ = false := frozenOf hv1 0
  have hne' := ownBlock_ne hown' hv1 (by decide)
  clear hnil
  go_wp2
  go_ret2
  refine ⟨rfl, _, ⟨blk_setCell hv1 0 _, ?_⟩, ?_, hat⟩
  · have h1 : w1.ownsRow base 5 1 (.slice A' (xs.length + ys.length) c') (xs ++ ys).length (u8s (xs ++ ys)) := by simpa using hown'
    exact ((Keeps.refl (fun k => k = W) w1).setCell ⟨W, 0, none⟩ _ (fun _ => rfl)).ownsRow h1 (fun k hk e => hne' (by rw [hk, e]))
  · exact ((Keeps.refl _ w).grown hgrow (fun k _ hk => .inr hk.symm)).setCell _ _ (fun _ => .inl rfl)

/-- The transformer at its own block: no handler of errors. -/
def TrBlk (w : World) (tr : Value) : Prop := ∃ b, tr = .iface 108 (.pointer (some ⟨b, 0, none⟩)) ∧ w.heap[b]? = some (.cells #[.nilFunc] 202 (0, 0))
/-- The encoder at block E: its writer at W, its scratch row at S, its transformer tr; the bytes xs are written. All of it lies from block base on. -/
structure EncAt (w : World) (base E S W : Nat) (tr : Value) (xs : List Int) : Prop where
  enc : w.heap[E]? = some (.cells #[.pointer (some ⟨W, 0, none⟩), .slice (some ⟨S, 0, none⟩) 4096 4096, tr] 107 (0, 0))
  scr : ∃ C : Array Value, C.size = 4096 ∧ w.heap[S]? = some (.cells C 5 (0, 0))
  wr : ∃ v, WrAt w base W v xs ∧ some S ≠ v.ownBlock
  lo : base ≤ E ∧ base ≤ S ∧ base ≤ W
  tra : TrBlk w tr

theorem EncAt.keep {w w' : World} {base E S W : Nat} {tr : Value} {xs : List Int} (h : EncAt w base E S W tr xs) (hb : Below w.heap.size w w') : EncAt w' base E S W tr xs := by
  obtain ⟨v, ⟨hv, ho⟩, hS⟩ := h.wr
  obtain ⟨C, hC, hs⟩ := h.scr
  have hk : ∀ {k : Nat} {o : Obj}, w.heap[k]? = some o → w'.heap[k]? = some o := fun hk => (hb.block _ (sizeOf_blk hk)).trans hk
  obtain ⟨tb, te, ht⟩ := h.tra
  refine ⟨hk h.enc, ⟨C, hC, hk hs⟩, ⟨v, ⟨hk hv, ?_⟩, hS⟩, h.lo, ⟨tb, te, hk ht⟩⟩
  exact (show Keeps (fun _ => False) w w' from ⟨hb.os, hb.tape, hb.output, hb.size, fun k hk _ => hb.block k hk⟩).ownsRow ho (fun _ _ => id)

theorem ownBlock_ge {w : World} {base n : Nat} {e : TypeId} {size : Nat} {v : Value} {xs : List Value} (h : w.ownsRow base e size v n xs) (k : Nat) (hk : some k = v.ownBlock) : base ≤ k ∧ k < w.heap.size := h.lt k hk.symm

set_option maxRecDepth 100000 in
theorem bytes_any (w : World) (base E S W : Nat) (tr : Value) (xs ys : List Int) (h : EncAt w base E S W tr xs) (b o n c : Nat) (hn : ys.length = n) (hy : ∀ j (h : j < ys.length), w.cell? ⟨b, o + j, none⟩ = some (.int .u8 ys[j]))
    (hl : xs.length + ys.length ≤ 1000000) :
    Calls Tryz.prog 88 #[.pointer (some ⟨E, 0, none⟩), .slice (some ⟨b, o, none⟩) n c] w fun e w' =>
      e = .returned (.tuple #[]) ∧ EncAt w' base E S W tr (xs ++ ys) ∧ Below base w w' := by
  obtain ⟨v, hwr, hS⟩ := h.wr
  obtain ⟨C, hC, hs⟩ := h.scr
  obtain ⟨l1, l2, l3⟩ := h.lo
  have he := h.enc
  have c0 : w.cell? ⟨E, 0, none⟩ = some (.pointer (some ⟨W, 0, none⟩)) := by rw [cellOf he]; rfl
  obtain ⟨tb, te, ht⟩ := h.tra
  have hTW : tb ≠ W := fun e => by have := hwr.blk; rw [← e, ht] at this; simp at this
  have hTv := ownBlock_ne hwr.own ht (by decide)
  have ht' := Lib.hid (And.intro te ht); clear te ht
  have hC' := Lib.hid hC; clear hC
  have hn' := Lib.hid hn; clear hn
  go_enter Tryz.func88, Tryz.ntmps88
  go_wp2_with fail
  refine (write_any w base W v xs ys hwr l3 b o n c hn'.out hy hl).mono ?_
  rintro e w1 ⟨rfl, v', hwr', hk, hat⟩
  have hEW : E ≠ W := fun e => by have := hwr.blk; rw [← e, he] at this; simp at this
  have hSW : S ≠ W := fun e => by have := hwr.blk; rw [← e, hs] at this; simp at this
  have hEv := ownBlock_ne hwr.own he (by decide)
  have he1 := hk.at_ he (fun x => x.elim hEW hEv)
  have hs1 := hk.at_ hs (fun x => x.elim hSW hS)
  have hbel : Below base w w1 := hk.below (by have := sizeOf_blk he; omega) (fun k hk' x => x.elim (fun e => by omega) (fun e => by have := (ownBlock_ge hwr.own k e).1; omega))
  go_wp2
  go_end0
  refine ⟨rfl, ⟨he1, ⟨C, hC'.out, hs1⟩, ⟨v', hwr', ?_⟩, ⟨l1, l2, l3⟩, ⟨tb, ht'.out.1, hk.at_ ht'.out.2 (fun x => x.elim hTW hTv)⟩⟩, hbel⟩
  rcases hat with hat | hat
  · rw [hat]; exact hS
  · rw [hat]; have := sizeOf_blk hs; intro e; injection e; omega

/-- A store into the scratch row leaves the encoder as it is. -/
theorem EncAt.store {w : World} {base E S W : Nat} {tr : Value} {xs : List Int} (h : EncAt w base E S W tr xs) (i : Nat) (u : Value) : EncAt (w.setCell ⟨S, i, none⟩ u) base E S W tr xs := by
  obtain ⟨v, ⟨hv, ho⟩, hS⟩ := h.wr
  obtain ⟨C, hC, hs⟩ := h.scr
  obtain ⟨tb, te, ht⟩ := h.tra
  have hTS : tb ≠ S := fun e => by rw [← e, ht] at hs; simp at hs
  have he := h.enc
  have hES : E ≠ S := fun e => by rw [← e, he] at hs; simp at hs
  have hWS : W ≠ S := fun e => by rw [← e, hv] at hs; simp at hs
  have hk : Keeps (fun k => k = S) w (w.setCell ⟨S, i, none⟩ u) := (Keeps.refl _ w).setCell _ _ (fun _ => rfl)
  exact ⟨hk.at_ he hES, ⟨_, by simpa using hC, blk_setCell hs i u⟩, ⟨v, ⟨hk.at_ hv hWS, hk.ownsRow ho (fun k e x => hS (by rw [e, x]))⟩, hS⟩, h.lo, ⟨tb, te, hk.at_ ht hTS⟩⟩

/-- The scratch row's cells: there, and not frozen. -/
theorem EncAt.cell {w : World} {base E S W : Nat} {tr : Value} {xs : List Int} (h : EncAt w base E S W tr xs) (i : Nat) (hi : i < 4096) : (∃ u, w.cell? ⟨S, i, none⟩ = some u) ∧ w.frozen? ⟨S, i, none⟩ = false := by
  obtain ⟨C, hC, hs⟩ := h.scr
  exact ⟨⟨C[i]'(by omega), by rw [cellOf hs]; simp [hC, hi]⟩, frozenOf hs i⟩

set_option maxRecDepth 100000 in
theorem byte_any (w : World) (base E S W : Nat) (tr : Value) (xs : List Int) (h : EncAt w base E S W tr xs) (x : Int) (hl : xs.length ≤ 900000) :
    Calls Tryz.prog 40 #[.pointer (some ⟨E, 0, none⟩), .int .u8 x] w fun e w' =>
      e = .returned (.tuple #[]) ∧ EncAt w' base E S W tr (xs ++ [x]) ∧ Below base w w' := by
  have he := h.enc
  have c1 : w.cell? ⟨E, 1, none⟩ = some (.slice (some ⟨S, 0, none⟩) 4096 4096) := by rw [cellOf he]; rfl
  obtain ⟨⟨u, s0⟩, f0⟩ := h.cell 0 (by decide)
  have hES : E ≠ S := fun e => by obtain ⟨C, hC, hs⟩ := h.scr; rw [← e, he] at hs; simp at hs
  have hst := h.store 0 (.int .u8 x)
  have l2 := h.lo.2.1
  go_enter Tryz.func40, Tryz.ntmps40
  go_wp2_with fail
  refine (bytes_any _ base E S W tr xs [x] hst S 0 1 4096 rfl ?_ (by simp; omega)).mono ?_
  · intro j hj
    obtain rfl : j = 0 := by simpa using hj
    exact World.cell?_setCell_same _ _ _ s0
  rintro e w1 ⟨rfl, hen, hb⟩
  go_wp2
  go_end0
  exact ⟨rfl, hen, ((Below.refl base w).setCell l2 _).trans hb⟩
end Go.Proofs.YtipoenpakjpokaaGreatDoor
