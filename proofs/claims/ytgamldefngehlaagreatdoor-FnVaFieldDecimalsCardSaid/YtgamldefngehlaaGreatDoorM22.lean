/- Parts of the walk. -/
import Derived.Test.YtgamldefngehlaaGreatDoorM01
import Derived.Test.YtgamldefngehlaaGreatDoorM21
import Derived.Test.YtgamldefngehlaaGreatDoorM24
set_option linter.unusedVariables false
set_option linter.unusedSimpArgs false
namespace Go.Proofs.YtgamldefngehlaaGreatDoor
open Go.RowKit
theorem Tryz.info5 : (Tryz.prog.info? 5).map (fun i => (i.zero, i.size, i.bytes)) = some (some (.int .u8 0), 1, 1) := by kernel_rfl
structure WrAt (w : World) (base W : Nat) (v : Value) (xs : List Int) : Prop where
 blk : w.heap[W]? = some (.cells #[v] 67 (0, 0))
 own : w.ownsRow base 5 1 v xs.length (u8s xs)
set_option maxRecDepth 100000 in
theorem write_any (w : World) (base W : Nat) (v : Value) (xs ys : List Int) (hw : WrAt w base W v xs) (hbW : base ≤ W) (b o n c : Nat) (hn : ys.length = n) (hy : ∀ j (h : j < ys.length), w.cell? ⟨b, o + j, none⟩ = some (.int .u8 ys[j]))
  (hl : xs.length + ys.length ≤ 1000000) :
  Calls Tryz.prog 169 #[.pointer (some ⟨W, 0, none⟩), .slice (some ⟨b, o, none⟩) n c] w fun e w' =>
   e = .returned (.tuple #[.int .i64 n, .nilIface]) ∧ ∃ v', WrAt w' base W v' (xs ++ ys) ∧ Keeps (fun k => k = W ∨ some k = v.ownBlock) w w' ∧ (v'.ownBlock = v.ownBlock ∨ v'.ownBlock = some w.heap.size) := by
 subst hn
 obtain ⟨i0, hi, hz0, hz1, hz2⟩ := info_parts Tryz.info5
 obtain ⟨hv, hown⟩ := hw
 have hc : w.cell? ⟨W, 0, none⟩ = some v := by rw [cellOf hv]; rfl
 have hf : w.frozen? ⟨W, 0, none⟩ = false := frozenOf hv 0
 have hW := sizeOf_blk hv
 go_enter Tryz.func169, Tryz.ntmps169
 go_wp2_with (at_builtin; refine wpList_append_own_at _ rfl (.tmp 10) (.tmp 11) 22 rfl base 5 i0 (.int .u8 0) 1 1 Tryz.underlying22 hi hz0 hz1 hz2 rfl (by decide) _ _ _ rfl hown ⟨b, o, none⟩ _ _ (u8s ys) rfl (by simp) ?c1 ?c2 ?c3 ?c4 ?c5 ?_)
 case c1 =>
  intro j u hj
  obtain ⟨hj', rfl⟩ := List.getElem?_eq_some_iff.1 hj
  simp only [List.length_map] at hj'
  have := hy j hj'
  simp only [List.getElem_map]
  rw [Addr.add_lit]; exact this
 case c2 => intro u hu; simp at hu; obtain ⟨_, _, rfl⟩ := hu; rfl
 case c3 => unfold maxLen; omega
 case c4 => omega
 case c5 => omega
 intro v' w1 hown' hgrow hnil hat
 obtain ⟨A', c', rfl⟩ := ownsRow_slice hown'
 have hne := ownBlock_ne hown hv (by decide)
 have hv1 := (hgrow.block W hW hne).trans hv
 have hc1 : w1.cell? ⟨W, 0, none⟩ = some v := by rw [cellOf hv1]; rfl
 have hf1 : w1.frozen? ⟨W, 0, none⟩ = false := frozenOf hv1 0
 have hne' := ownBlock_ne hown' hv1 (by decide)
 clear hnil
 go_wp2
 go_ret2
 refine ⟨rfl, _, ⟨blk_setCell hv1 0 _, ?_⟩, ?_, hat⟩
 ·have h1 : w1.ownsRow base 5 1 (.slice A' (xs.length + ys.length) c') (xs ++ ys).length (u8s (xs ++ ys)) := by simpa using hown'
  exact ((Keeps.refl (fun k => k = W) w1).setCell ⟨W, 0, none⟩ _ (fun _ => rfl)).ownsRow h1 (fun k hk e => hne' (by rw [hk, e]))
 ·exact ((Keeps.refl _ w).grown hgrow (fun k _ hk => .inr hk.symm)).setCell _ _ (fun _ => .inl rfl)
def TrBlk (w : World) (tr : Value) : Prop := ∃ b, tr = .iface 155 (.pointer (some ⟨b, 0, none⟩)) ∧ w.heap[b]? = some (.cells #[.nilFunc] 287 (0, 0))
structure EncAt (w : World) (base E S W : Nat) (tr : Value) (xs : List Int) : Prop where
 enc : w.heap[E]? = some (.cells #[.pointer (some ⟨W, 0, none⟩), .slice (some ⟨S, 0, none⟩) 4096 4096, tr] 154 (0, 0))
 scr : ∃ C : Array Value, C.size = 4096 ∧ w.heap[S]? = some (.cells C 5 (0, 0))
 wr : ∃ v, WrAt w base W v xs ∧ some S ≠ v.ownBlock
 lo : base ≤ E ∧ base ≤ S ∧ base ≤ W
 tra : TrBlk w tr
theorem EncAt.keep {w w' : World} {base E S W : Nat} {tr : Value} {xs : List Int} (h : EncAt w base E S W tr xs) (hb : Below w.heap.size w w') : EncAt w' base E S W tr xs := by
 obtain ⟨v, ⟨hv, ho⟩, hS⟩ := h.wr
 obtain ⟨C, hC, hs⟩ := h.scr
 have hk : ∀ {k : Nat} {o : Obj}, w.heap[k]? = some o → w'.heap[k]? = some o := fun hk => (hb.block _ (sizeOf_blk hk)).trans hk
 obtain ⟨tb, te, ht⟩ := h.tra
 refine ⟨hk h.enc, ⟨C, hC, hk hs⟩, ⟨v, ⟨hk hv, ?_⟩, hS⟩, h.lo, ⟨tb, te, hk ht⟩⟩
 exact (show Keeps (fun _ => False) w w' from ⟨hb.os, hb.tape, hb.output, hb.size, fun k hk _ => hb.block k hk⟩).ownsRow ho (fun _ _ => id)
theorem ownBlock_ge {w : World} {base n : Nat} {e : TypeId} {size : Nat} {v : Value} {xs : List Value} (h : w.ownsRow base e size v n xs) (k : Nat) (hk : some k = v.ownBlock) : base ≤ k ∧ k < w.heap.size := h.lt k hk.symm
set_option maxRecDepth 100000 in
theorem bytes_any (w : World) (base E S W : Nat) (tr : Value) (xs ys : List Int) (h : EncAt w base E S W tr xs) (b o n c : Nat) (hn : ys.length = n) (hy : ∀ j (h : j < ys.length), w.cell? ⟨b, o + j, none⟩ = some (.int .u8 ys[j]))
  (hl : xs.length + ys.length ≤ 1000000) :
  Calls Tryz.prog 142 #[.pointer (some ⟨E, 0, none⟩), .slice (some ⟨b, o, none⟩) n c] w fun e w' =>
   e = .returned (.tuple #[]) ∧ EncAt w' base E S W tr (xs ++ ys) ∧ Below base w w' := by
 obtain ⟨v, hwr, hS⟩ := h.wr
 obtain ⟨C, hC, hs⟩ := h.scr
 obtain ⟨l1, l2, l3⟩ := h.lo
 have he := h.enc
 have c0 : w.cell? ⟨E, 0, none⟩ = some (.pointer (some ⟨W, 0, none⟩)) := by rw [cellOf he]; rfl
 obtain ⟨tb, te, ht⟩ := h.tra
 have hTW : tb ≠ W := fun e => by have := hwr.blk; rw [← e, ht] at this; simp at this
 have hTv := ownBlock_ne hwr.own ht (by decide)
 have ht' := Lib.hid (And.intro te ht); clear te ht
 have hC' := Lib.hid hC; clear hC
 have hn' := Lib.hid hn; clear hn
 go_enter Tryz.func142, Tryz.ntmps142
 go_wp2_with fail
 refine (write_any w base W v xs ys hwr l3 b o n c hn'.out hy hl).mono ?_
 rintro e w1 ⟨rfl, v', hwr', hk, hat⟩
 have hEW : E ≠ W := fun e => by have := hwr.blk; rw [← e, he] at this; simp at this
 have hSW : S ≠ W := fun e => by have := hwr.blk; rw [← e, hs] at this; simp at this
 have hEv := ownBlock_ne hwr.own he (by decide)
 have he1 := hk.at_ he (fun x => x.elim hEW hEv)
 have hs1 := hk.at_ hs (fun x => x.elim hSW hS)
 have hbel : Below base w w1 := hk.below (by have := sizeOf_blk he; omega) (fun k hk' x => x.elim (fun e => by omega) (fun e => by have := (ownBlock_ge hwr.own k e).1; omega))
 go_wp2
 go_end0
 refine ⟨rfl, ⟨he1, ⟨C, hC'.out, hs1⟩, ⟨v', hwr', ?_⟩, ⟨l1, l2, l3⟩, ⟨tb, ht'.out.1, hk.at_ ht'.out.2 (fun x => x.elim hTW hTv)⟩⟩, hbel⟩
 rcases hat with hat | hat
 ·rw [hat]; exact hS
 ·rw [hat]; have := sizeOf_blk hs; intro e; injection e; omega
theorem EncAt.store {w : World} {base E S W : Nat} {tr : Value} {xs : List Int} (h : EncAt w base E S W tr xs) (i : Nat) (u : Value) : EncAt (w.setCell ⟨S, i, none⟩ u) base E S W tr xs := by
 obtain ⟨v, ⟨hv, ho⟩, hS⟩ := h.wr
 obtain ⟨C, hC, hs⟩ := h.scr
 obtain ⟨tb, te, ht⟩ := h.tra
 have hTS : tb ≠ S := fun e => by rw [← e, ht] at hs; simp at hs
 have he := h.enc
 have hES : E ≠ S := fun e => by rw [← e, he] at hs; simp at hs
 have hWS : W ≠ S := fun e => by rw [← e, hv] at hs; simp at hs
 have hk : Keeps (fun k => k = S) w (w.setCell ⟨S, i, none⟩ u) := (Keeps.refl _ w).setCell _ _ (fun _ => rfl)
 exact ⟨hk.at_ he hES, ⟨_, by simpa using hC, blk_setCell hs i u⟩, ⟨v, ⟨hk.at_ hv hWS, hk.ownsRow ho (fun k e x => hS (by rw [e, x]))⟩, hS⟩, h.lo, ⟨tb, te, hk.at_ ht hTS⟩⟩
theorem EncAt.cell {w : World} {base E S W : Nat} {tr : Value} {xs : List Int} (h : EncAt w base E S W tr xs) (i : Nat) (hi : i < 4096) : (∃ u, w.cell? ⟨S, i, none⟩ = some u) ∧ w.frozen? ⟨S, i, none⟩ = false := by
 obtain ⟨C, hC, hs⟩ := h.scr
 exact ⟨⟨C[i]'(by omega), by rw [cellOf hs]; simp [hC, hi]⟩, frozenOf hs i⟩
set_option maxRecDepth 100000 in
theorem byte_any (w : World) (base E S W : Nat) (tr : Value) (xs : List Int) (h : EncAt w base E S W tr xs) (x : Int) (hl : xs.length ≤ 900000) :
  Calls Tryz.prog 68 #[.pointer (some ⟨E, 0, none⟩), .int .u8 x] w fun e w' =>
   e = .returned (.tuple #[]) ∧ EncAt w' base E S W tr (xs ++ [x]) ∧ Below base w w' := by
 have he := h.enc
 have c1 : w.cell? ⟨E, 1, none⟩ = some (.slice (some ⟨S, 0, none⟩) 4096 4096) := by rw [cellOf he]; rfl
 obtain ⟨⟨u, s0⟩, f0⟩ := h.cell 0 (by decide)
 have hES : E ≠ S := fun e => by obtain ⟨C, hC, hs⟩ := h.scr; rw [← e, he] at hs; simp at hs
 have hst := h.store 0 (.int .u8 x)
 have l2 := h.lo.2.1
 go_enter Tryz.func68, Tryz.ntmps68
 go_wp2_with fail
 refine (bytes_any _ base E S W tr xs [x] hst S 0 1 4096 rfl ?_ (by simp; omega)).mono ?_
 ·intro j hj
  obtain rfl : j = 0 := by simpa using hj
  exact World.cell?_setCell_same _ _ _ s0
 rintro e w1 ⟨rfl, hen, hb⟩
 go_wp2
 go_end0
 exact ⟨rfl, hen, ((Below.refl base w).setCell l2 _).trans hb⟩
end Go.Proofs.YtgamldefngehlaaGreatDoor
namespace Go.Proofs.YtgamldefngehlaaGreatDoor
open Go.RowKit
def zeros4k : Array Value := madeCells #[.int .u8 0] 4096
theorem zeros4k_size : zeros4k.size = 4096 := by simp [zeros4k, madeCells]
theorem zeros4k_list : zeros4k.toList.toArray = zeros4k := Array.toArray_toList
theorem make4k (W : World) : (Instr.makeSlice 22 (.int .i64 4096) (.int .i64 4096)).run Tryz.prog W = .ok (.slice (some ⟨W.heap.size, 0, none⟩) 4096 4096) (W.alloc (.cells zeros4k 5)) :=
 run_make_row' 22 5 (.int .u8 0) 1 Tryz.underlying22 Tryz.info5 rfl .i64 .i64 4096 (by decide) (by decide) W
attribute [irreducible] zeros4k
def TrE (tr : Value) : Prop := ∃ a, tr = .iface 155 (.pointer (some a))
set_option maxRecDepth 100000 in
theorem encoder_any (w : World) (base W : Nat) (hW : w.heap[W]? = some (.cells #[.slice none 0 0] 67 (0, 0))) (hbW : base ≤ W) :
  Calls Tryz.prog 23 #[.pointer (some ⟨W, 0, none⟩)] w fun e w' =>
   ∃ E S tr, e = .returned (.pointer (some ⟨E, 0, none⟩)) ∧ TrE tr ∧ EncAt w' base E S W tr [] ∧ Below w.heap.size w w' := by
 have hmk := make4k
 have hlW := sizeOf_blk hW
 go_enter Tryz.func23, Tryz.ntmps23
 go_wp2
 go_ret
 refine ⟨w.heap.size + 1 + 1, w.heap.size + 1, .iface 155 (.pointer (some ⟨w.heap.size, 0, none⟩)), rfl, ⟨_, rfl⟩, ⟨blk_new' _ _ _ (by simp), ⟨zeros4k, zeros4k_size, blk_alloc (blk_new' _ _ _ (by simp)) _⟩, ⟨.slice none 0 0, ⟨blk_alloc (blk_alloc (blk_alloc hW _) _) _, by simp, .inl ⟨rfl, rfl⟩⟩, by simp [Value.ownBlock]⟩, ⟨by omega, by omega, hbW⟩, ⟨w.heap.size, rfl, blk_alloc (blk_alloc (blk_new _ _) _) _⟩⟩, ?_⟩
 exact (((Below.refl _ _).alloc (Nat.le_refl _) _).alloc (by simp) _).alloc (by simp; omega) _
end Go.Proofs.YtgamldefngehlaaGreatDoor
namespace Go.Proofs.YtgamldefngehlaaGreatDoor
open Go.RowKit
set_option maxRecDepth 100000 in
theorem encWrite (w : World) (base E S W : Nat) (tr : Value) (xs ys : List Int) (h : EncAt w base E S W tr xs) (b o n c : Nat) (hn : ys.length = n) (hy : ∀ j (h : j < ys.length), w.cell? ⟨b, o + j, none⟩ = some (.int .u8 ys[j]))
  (hl : xs.length + ys.length ≤ 1000000) :
  Calls Tryz.prog 169 #[.pointer (some ⟨W, 0, none⟩), .slice (some ⟨b, o, none⟩) n c] w fun e w' =>
   e = .returned (.tuple #[.int .i64 n, .nilIface]) ∧ EncAt w' base E S W tr (xs ++ ys) ∧ Below base w w' := by
 obtain ⟨v, hwr, hS⟩ := h.wr
 obtain ⟨C, hC, hs⟩ := h.scr
 obtain ⟨l1, l2, l3⟩ := h.lo
 have he := h.enc
 refine (write_any w base W v xs ys hwr l3 b o n c hn hy hl).mono ?_
 rintro e w1 ⟨rfl, v', hwr', hk, hat⟩
 obtain ⟨tb, te, ht⟩ := h.tra
 have hTW : tb ≠ W := fun e => by have := hwr.blk; rw [← e, ht] at this; simp at this
 have hTv := ownBlock_ne hwr.own ht (by decide)
 have hEW : E ≠ W := fun e => by have := hwr.blk; rw [← e, he] at this; simp at this
 have hSW : S ≠ W := fun e => by have := hwr.blk; rw [← e, hs] at this; simp at this
 have hEv := ownBlock_ne hwr.own he (by decide)
 have he1 := hk.at_ he (fun x => x.elim hEW hEv)
 have hs1 := hk.at_ hs (fun x => x.elim hSW hS)
 have hbel : Below base w w1 := hk.below (by have := sizeOf_blk he; omega) (fun k hk' x => x.elim (fun e => by omega) (fun e => by have := (ownBlock_ge hwr.own k e).1; omega))
 refine ⟨rfl, ⟨he1, ⟨C, hC, hs1⟩, ⟨v', hwr', ?_⟩, ⟨l1, l2, l3⟩, ⟨tb, te, hk.at_ ht (fun x => x.elim hTW hTv)⟩⟩, hbel⟩
 rcases hat with hat | hat
 ·rw [hat]; exact hS
 ·rw [hat]; have := sizeOf_blk hs; intro e; injection e; omega
theorem EncAt.drew {w : World} {base E S W : Nat} {tr : Value} {xs : List Int} (h : EncAt w base E S W tr xs) : EncAt w.drew base E S W tr xs := h.keep ⟨rfl, rfl, rfl, Nat.le_refl _, fun _ _ => rfl⟩
end Go.Proofs.YtgamldefngehlaaGreatDoor
namespace Go.Proofs.YtgamldefngehlaaGreatDoor
open Go.RowKit
structure LaidB (w wr : World) (base E S W : Nat) (tr : Value) (xs ys : List Int) (j : Nat) : Prop where
 enc : EncAt wr base E S W tr xs
 keep : Keeps (fun k => k = S) w wr
 cells : ∀ i (h : i < ys.length), i < j → wr.cell? ⟨S, i, none⟩ = some (.int .u8 ys[i])
theorem LaidB.step {w wr : World} {base E S W : Nat} {tr : Value} {xs ys : List Int} {j : Nat} (h : LaidB w wr base E S W tr xs ys j) (b : Int) (hj : j < 4096) (hb : ∀ h : j < ys.length, ys[j] = b) :
  LaidB w (wr.setCell ⟨S, j, none⟩ (.int .u8 b)) base E S W tr xs ys (j + 1) := by
 obtain ⟨⟨u, hu⟩, hf⟩ := h.enc.cell j hj
 refine ⟨h.enc.store j _, h.keep.setCell _ _ (fun _ => rfl), fun i hi hij => ?_⟩
 by_cases e : i = j
 ·subst e
  rw [hb hi]
  exact cell_set_same hu _
 ·rw [cell_set_ne (by simp [e])]
  exact h.cells i hi (by omega)
end Go.Proofs.YtgamldefngehlaaGreatDoor
namespace Go.Proofs.YtgamldefngehlaaGreatDoor
theorem leB_get (k : Nat) : ∀ (z : Int) (j : Nat) (h : j < (leB z k).length), (leB z k)[j] = z / (256 : Int) ^ j % 256 := by
 induction k with
 | zero => intro z j h; simp at h
 | succ k ih =>
  intro z j h
  cases j with
  | zero => simp [leB]
  | succ j =>
   have h2 : j < (leB (z / 256) k).length := by simp at h ⊢; omega
   have e : (leB z (k + 1))[j + 1] = (leB (z / 256) k)[j] := by simp [leB]
   rw [e, ih (z / 256) j h2, Int.pow_succ, Int.mul_comm, Int.ediv_ediv_of_nonneg (by omega)]
theorem WB_pow (t : Nat) : WB ^ t = 256 ^ (8 * t) := by rw [Nat.pow_mul, WB_eq]
theorem digs_get (n : Nat) : ∀ (t : Nat) (h : t < (digs WB n).length), (digs WB n)[t] = n / WB ^ t % WB := by
 intro t
 induction t generalizing n with
 | zero =>
  intro h
  have h0 : n ≠ 0 := fun e => by subst e; rw [digs_zero] at h; simp at h
  simp [digs_pos WB_one h0]
 | succ t ih =>
  intro h
  have h0 : n ≠ 0 := fun e => by subst e; rw [digs_zero] at h; simp at h
  have e := digs_pos WB_one h0
  have h2 : t < (digs WB (n / WB)).length := by rw [e] at h; simpa using h
  have e2 : (digs WB n)[t + 1] = (digs WB (n / WB))[t] := by simp [e]
  rw [e2, ih (n / WB) h2, Nat.div_div_eq_div_mul, Nat.pow_succ, Nat.mul_comm WB]
theorem word_byte (n t i : Nat) (hi : i < 8) : n / WB ^ t % WB / 256 ^ i % 256 = n / 256 ^ (8 * t + i) % 256 := by
 have e : WB = 256 ^ i * (256 * 256 ^ (7 - i)) := by
  rw [← Nat.pow_succ', ← Nat.pow_add, WB_eq, show i + (7 - i + 1) = 8 by omega]
 rw [e, Nat.mod_mul_right_div_self, Nat.mod_mul_right_mod, ← e, WB_pow, Nat.div_div_eq_div_mul, ← Nat.pow_add]
theorem leB_words (n size : Nat) : ∀ t (h : t < (digs WB n).length) i, i < 8 → ∀ h2 : 8 * t + i < (leB (n : Int) size).length, (leB (n : Int) size)[8 * t + i] = (((digs WB n)[t] / 256 ^ i % 256 : Nat) : Int) := by
 intro t h i hi h2
 rw [leB_get, digs_get n t h, word_byte n t i hi]
 simp
theorem leB_rest (n size : Nat) : ∀ j (h : j < (leB (n : Int) size).length), 8 * (digs WB n).length ≤ j → (leB (n : Int) size)[j] = 0 := by
 intro j h hj
 rw [leB_get]
 have h1 := (digs_length_le WB_one (n := n) (k := (digs WB n).length)).1 (Nat.le_refl _)
 rw [WB_pow] at h1
 have h2 : n < 256 ^ j := Nat.lt_of_lt_of_le h1 (Nat.pow_le_pow_right (by omega) hj)
 have : (n : Int) / (256 : Int) ^ j = ((n / 256 ^ j : Nat) : Int) := by simp
 rw [this, Nat.div_eq_of_lt h2]
 rfl
end Go.Proofs.YtgamldefngehlaaGreatDoor
namespace Go.Proofs.YtgamldefngehlaaGreatDoor
open Go.RowKit
theorem LaidB.set {w wr : World} {base E S W : Nat} {tr : Value} {xs ys : List Int} {j : Nat} (h : LaidB w wr base E S W tr xs ys j) (i : Nat) (b : Int) (hi : i < 4096) : LaidB w (wr.setCell ⟨S, i, none⟩ (.int .u8 b)) base E S W tr xs (ys.set i b) j := by
 obtain ⟨⟨u, hu⟩, hf⟩ := h.enc.cell i hi
 refine ⟨h.enc.store i _, h.keep.setCell _ _ (fun _ => rfl), fun k hk hkj => ?_⟩
 rw [List.length_set] at hk
 by_cases e : k = i
 ·subst e
  rw [List.getElem_set_self]
  exact cell_set_same hu _
 ·rw [cell_set_ne (by simp [e]), List.getElem_set_ne (fun h => e h.symm)]
  exact h.cells k hk hkj
theorem or_u8_zero (n : Nat) (h : n < 256) : bits .or .u8 0 (n : Int) = (n : Int) := by
 have : ∀ k : Fin 256, bits .or .u8 0 ((k.val : Nat) : Int) = ((k.val : Nat) : Int) := by decide +kernel
 exact this ⟨n, h⟩
theorem or_u8_high (n : Nat) (h : n < 128) : bits .or .u8 (n : Int) 128 = ((n + 128 : Nat) : Int) := by
 have : ∀ k : Fin 128, bits .or .u8 ((k.val : Nat) : Int) 128 = ((k.val + 128 : Nat) : Int) := by decide +kernel
 exact this ⟨n, h⟩
def decB (s : Bool) (M X : Nat) : List Int := ((leB (M : Int) 16).set 14 ((2 * (X % 128) : Nat) : Int)).set 15 ((X / 128 + (if s = true then 128 else 0) : Nat) : Int)
set_option maxRecDepth 100000 in
set_option maxHeartbeats 1000000 in
theorem encDec_any (w0 w : World) (base E S W gm M X : Nat) (e0 : Int) (s : Bool) (tr v : Value) (xs : List Int) (h : EncAt w0 base E S W tr xs) (hb : Below base w0 w) (hE0 : EncAt w base E S W tr xs) (bm : Nat) (hm : IntAt w bm gm 0 s v M) (hs : s = true → M ≠ 0) (hbm : S < bm) (hgm : S < gm) (hX : e0 + 6176 = (X : Int)) (hXl : X < 16384) (hM : M < 256 ^ 14) (hxl : xs.length ≤ 900000) :
  Calls Tryz.prog 160 #[.pointer (some ⟨E, 0, none⟩), .pointer (some ⟨gm, 0, none⟩), .int .i64 e0] w fun e w' => e = .returned (.tuple #[]) ∧ EncAt w' base E S W tr (xs ++ decB s M X) ∧ Below base w0 w' := by
 have hlen : (digs WB M).length ≤ 2 := (digs_length_le WB_one).2 (Nat.lt_trans hM (by rw [WB_eq]; decide +kernel))
 have hWr := leB_words M 16
 have hFr := leB_rest M 16
 have hyl := leB_length (M : Int) 16
 have hy14 : ∀ h : 14 < (leB (M : Int) 16).length, (leB (M : Int) 16)[14] = 0 := fun h => by
  rw [leB_get]
  have : (M : Int) / (256 : Int) ^ 14 = 0 := by
   rw [Int.ediv_eq_zero_of_lt (by omega)]
   exact_mod_cast hM
  rw [this]; rfl
 obtain ⟨ys, hys⟩ : ∃ ys, leB (M : Int) 16 = ys := ⟨_, rfl⟩
 obtain ⟨pv, cv, rfl⟩ := NatRow.form hm.nat
 have hS := Lib.hid (fun (W' : World) (hk : Keeps (fun k => k = S) w W') => intSign_any W' bm gm 0 M s _ (hm.kept hk (fun e => by omega) (fun k hk e => by have := (NatRow.lt hm.nat k hk).1; omega)) hs)
 have hB := Lib.hid (intBits_any w bm gm 0 s _ _ hm.row)
 have he := hE0.enc
 have c1 : w.cell? ⟨E, 1, none⟩ = some (.slice (some ⟨S, 0, none⟩) 4096 4096) := by rw [cellOf he]; rfl
 unfold decB
 rw [hys] at hWr hFr hyl hy14 ⊢
 have hrow' := hm.nat
 unfold NatAt at hrow'
 have hsg : (if M = 0 then (0 : Int) else if s = true then -1 else 1) = -1 ↔ s = true := by
  cases s with
  | false => by_cases e : M = 0 <;> simp [e]
  | true => simp [hs rfl]
 generalize hsgn : (if M = 0 then (0 : Int) else if s = true then -1 else 1) = sg at *
 generalize digs WB M = ds at *
 have hb' := Lib.hid hb
 have h' := Lib.hid h
 have hsgH := Lib.hid hsg
 have hXH := Lib.hid hX
 have hysH := Lib.hid hys
 have hWrH := Lib.hid hWr
 have hFrH := Lib.hid hFr
 have hy14H := Lib.hid hy14
 have hylH := Lib.hid hyl
 have hEH := Lib.hid hE0
 have hrowH := Lib.hid hrow'
 clear h hb hm he hE0 hsg hsgn hX hys hWr hFr hy14 hyl hrow' hs hM
 go_enter Tryz.func160, Tryz.ntmps160
 go_wp2_with fail
 refine hB.out.mono ?_
 rintro e w1 ⟨rfl, hw1⟩
 obtain rfl := hw1.symm
 obtain ⟨L, hL⟩ : ∃ L, ds.length = L := ⟨_, rfl⟩
 rw [hL] at hlen ⊢
 have hL' := Lib.hid hL
 have hl0 : LaidB w w base E S W tr xs ys 0 := ⟨hEH.out, Keeps.refl _ _, fun i h h2 => absurd h2 (Nat.not_lt_zero _)⟩
 clear c1 hB hL
 go_wp2_with fail
 go_loopw [7, 20] (fun j ix wr => ∃ k q : Nat, k ≤ L ∧ q = 8 * k ∧ j = .int .i64 q ∧ ix = .int .i64 k ∧ LaidB w wr base E S W tr xs ys q) (fun _ ix _ => L - (intOf ix).toNat)
 case atStart => exact ⟨0, 0, Nat.zero_le _, rfl, rfl, rfl, hl0⟩
 case round =>
  obtain ⟨k, q, hk, hq, rfl, rfl, hB⟩ := hrel
  have hqH := Lib.hid hq
  have hqz : q ≤ 16 := by omega
  have hk2 : k ≤ 2 := by omega
  clear hq
  by_cases hlt : k < L
  ·have t0 : (k : Int) < L := by omega
   have hL := hL'.out
   obtain ⟨b, C, hv, hbb, hCx, hwx, htx, h0x, hlx⟩ : ∃ b C, Value.slice pv L cv = .slice (some ⟨b, 0, none⟩) ds.length C.length ∧ bm ≤ b ∧ Blk w b C ∧ Words WB C ∧ C.take ds.length = ds ∧ 0 < C.length ∧ C.length ≤ 1000000 := by
    rcases hrowH.out with ⟨hv, e⟩ | ⟨b, C, hv, h1, h2, h3, h4, h5, h6⟩
    ·rw [e] at hL; simp at hL; omega
    ·exact ⟨b, C, by rw [hL]; rw [hL] at hv; exact hv, h1, h2, h3, h4, h5, h6⟩
   injection hv with h1 h2 h3
   subst h1 h3
   have hbS : b ≠ S := by omega
   have hvx := hCx.row (xs := ds) htx (by rw [← htx]; simp; omega)
   have hck := hB.keep.cellS (hvx k (by omega)) (fun e => hbS e)
   rw [Nat.zero_add] at hck
   have wd := (show Words WB ds from htx ▸ hwx.take _).get k (by omega)
   have hW := fun i (hi : i < 8) (h2 : 8 * k + i < ys.length) => hWrH.out k (by omega) i hi h2
   obtain ⟨d, hd⟩ : ∃ d, ∀ h : k < ds.length, ds[k] = d := ⟨ds[k]'(by omega), fun _ => rfl⟩
   simp only [hd] at hW
   rw [hd] at hck wd
   have hW'' := Lib.hid hW
   clear hL hW hvx hCx hwx htx h0x hlx h2
   go_wp2_with fail
   obtain ⟨wo, hwo⟩ : ∃ x, x = wr := ⟨_, rfl⟩
   subst hwo
   go_loopw [7, 9, 10] (fun j dd i wx => ∃ m q' : Nat, m ≤ 8 ∧ q' = 8 * k + m ∧ j = .int .i64 q' ∧ dd = .int .u64 (d / 256 ^ m : Nat) ∧ i = .int .i64 m ∧ LaidB w wx base E S W tr xs ys q') (fun _ _ i _ => 8 - (intOf i).toNat)
   case atStart => exact ⟨0, q, by omega, hqH.out, rfl, by rw [Nat.pow_zero, Nat.div_one], rfl, hB⟩
   case round =>
    obtain ⟨m, q', hm, hq', rfl, rfl, rfl, hB'⟩ := hrel
    by_cases hm8 : m < 8
    ·have t1 : (m : Int) < 8 := by omega
     have hk1 : k < 2 := by omega
     have t2 : (q' : Int) < 16 := by omega
     have t3 : (0 : Int) ≤ q' := by omega
     obtain ⟨dm, hdm⟩ : ∃ x, d / 256 ^ m = x := ⟨_, rfl⟩
     obtain ⟨⟨u, hu⟩, hfz⟩ := hB'.enc.cell q' (by omega)
     have hst := hB'.step ((dm % 256 : Nat) : Int) (by omega) (fun h => by
      have := hW''.out m hm8 (by omega)
      rw [hdm] at this
      rw [← this]
      congr 1)
     have hst := Lib.hid hst
     have hdl : dm < WB := by rw [← hdm]; exact Nat.lt_of_le_of_lt (Nat.div_le_self _ _) wd
     have e2 : IntKind.u8.wrap (dm : Int) = ((dm % 256 : Nat) : Int) := by simp [IntKind.wrap, IntKind.bits, IntKind.signed]
     have e3 : (dm : Int) / 256 = ((dm / 256 : Nat) : Int) := by simp
     have e4 : dm / 256 = d / 256 ^ (m + 1) := by rw [← hdm, Nat.div_div_eq_div_mul, Nat.pow_succ]
     rw [hdm]
     generalize hlo : dm % 256 = lo at *
     generalize hdq : dm / 256 = dq at *
     have hq1 := Lib.hid (show q' + 1 = 8 * k + (m + 1) by omega)
     replace e4 := Lib.hid e4
     clear hB' hdm hdl hB hq'
     go_wp2_with fail
     go_roundw
     case rel => exact ⟨m + 1, q' + 1, by omega, hq1.out, by go_num, by rw [← e4.out], by go_num, hst.out⟩
     case measure => simp [intOf]; omega
    ·obtain rfl : m = 8 := by omega
     have hqe := Lib.hid (show q' = 8 * (k + 1) by omega)
     clear hB hq'
     go_wp2_with fail
     go_roundw
     case rel => exact ⟨k + 1, q', by omega, hqe.out, rfl, by go_num, hB'⟩
     case measure => simp [intOf]; omega
  ·obtain rfl : k = L := by omega
   have hF := hFrH.out
   have hLe := hL'.out
   have hyl := hylH.out
   have hqe := hqH.out
   have hF' := Lib.hid (fun j (h : j < ys.length) (h2 : q ≤ j) => hF j h (by omega))
   clear hF hLe hyl hqe
   go_wp2_with fail
   go_loopw [11] (fun i wx => ∃ p : Nat, q ≤ p ∧ p ≤ 16 ∧ i = .int .i64 p ∧ LaidB w wx base E S W tr xs ys p) (fun i _ => 16 - (intOf i).toNat)
   case atStart => exact ⟨q, Nat.le_refl _, hqz, rfl, hB⟩
   case round =>
    obtain ⟨p, hqp, hp, rfl, hB'⟩ := hrel
    by_cases hps : p < 16
    ·have t2 : (p : Int) < 16 := by omega
     have t3 : (0 : Int) ≤ p := by omega
     obtain ⟨⟨u, hu⟩, hfz⟩ := hB'.enc.cell p (by omega)
     have hst := Lib.hid (hB'.step 0 (by omega) (fun h => hF'.out p h (by omega)))
     clear hB' hB
     go_wp2_with fail
     go_roundw
     case rel => exact ⟨p + 1, by omega, by omega, by go_num, hst.out⟩
     case measure => simp [intOf]; omega
    ·obtain rfl : p = 16 := by omega
     clear hB
     obtain ⟨wo, hwo⟩ : ∃ x, x = wr := ⟨_, rfl⟩
     subst hwo
     have hcell14 := hB'.cells 14 (by have := hylH.out; omega) (by omega)
     rw [hy14H.out] at hcell14
     have hf14 := (hB'.enc.cell 14 (by omega)).2
     obtain ⟨⟨u15, hu15⟩, hf15⟩ := hB'.enc.cell 15 (by omega)
     have hX := hXH.out
     have z1 : IntKind.u8.wrap (X : Int) = ((X % 256 : Nat) : Int) := by simp [IntKind.wrap, IntKind.bits, IntKind.signed]
     have z2 : IntKind.u16.wrap (X : Int) = (X : Int) := by simp [IntKind.wrap, IntKind.bits, IntKind.signed]; omega
     have hB'' := Lib.hid hB'
     clear hB'
     have zA : (X : Int) % 256 * 2 % 256 = ((2 * (X % 128) : Nat) : Int) := by omega
     have zB : bits .or .u8 0 ((2 * (X % 128) : Nat) : Int) = ((2 * (X % 128) : Nat) : Int) := or_u8_zero (2 * (X % 128)) (by omega)
     have zC : (X : Int) / 128 = ((X / 128 : Nat) : Int) := by omega
     have zAH := Lib.hid (And.intro zA (And.intro zB zC))
     clear zA zB zC
     go_wp2_with fail
     rw [zAH.out.1, zAH.out.2.1, zAH.out.2.2]
     obtain ⟨V14, hV14⟩ : ∃ x, 2 * (X % 128) = x := ⟨_, rfl⟩
     obtain ⟨V15, hV15⟩ : ∃ x, X / 128 = x := ⟨_, rfl⟩
     rw [hV14, hV15]
     obtain ⟨w15, hw15⟩ : ∃ w15, (wo.setCell ⟨S, 14, none⟩ (.int .u8 (V14 : Int))).setCell ⟨S, 15, none⟩ (.int .u8 (V15 : Int)) = w15 := ⟨_, rfl⟩
     rw [hw15]
     have hL15 := (hB''.out.set 14 (V14 : Int) (by omega)).set 15 (V15 : Int) (by omega)
     rw [hw15] at hL15
     have hS15 := Lib.hid (hS.out w15 hL15.keep)
     have hl15 : ((ys.set 14 (V14 : Int)).set 15 (V15 : Int)).length = 16 := by simp; exact hylH.out
     have c15 : w15.cell? ⟨S, 15, none⟩ = some (.int .u8 (V15 : Int)) := by
      have := hL15.cells 15 (by rw [hl15]; omega) (by omega)
      rwa [List.getElem_set_self] at this
     have f15 := (hL15.enc.cell 15 (by omega)).2
     have hV15b : V15 < 128 := by omega
     have hL15H := Lib.hid hL15
     have hHid := Lib.hid (And.intro hV14 hV15)
     clear hw15 hV14 hV15 hL15 hcell14 hf14 hu15 hf15 z1 z2 hX
     cases s
     ·have tsg : ¬ sg = -1 := fun e => by have := hsgH.out.1 e; simp at this
      have c0 := show w15.cell? ⟨E, 0, none⟩ = some (.pointer (some ⟨W, 0, none⟩)) by rw [cellOf hL15H.out.enc.enc]; rfl
      have hWr := Lib.hid (encWrite _ base E S W tr xs _ hL15H.out.enc S 0 16 4096 hl15 (fun j h => by rw [Nat.zero_add]; exact hL15H.out.cells j h (by omega)) (by omega))
      clear hl15
      go_wp2_with fail
      refine hS15.out.mono ?_
      rintro e w16 ⟨rfl, hw16⟩
      obtain rfl := hw16.symm
      go_wp2_with fail
      refine hWr.out.mono ?_
      rintro e w17 ⟨rfl, he17, hb17⟩
      have hfin := Lib.hid (And.intro he17 hb17)
      clear he17 hb17
      go_wp2_with fail
      go_end0
      have hlo := h'.out.lo
      have hbs := sizeOf_blk h'.out.enc
      refine ⟨rfl, ?_, hb'.out.trans ((hL15H.out.keep.below (by have := hb'.out.size; omega) (fun k hk e => by omega)).trans hfin.out.2)⟩
      have h9 := hfin.out.1
      rw [← hHid.out.1, ← hHid.out.2] at h9
      simpa using h9
     ·have tsg : sg = -1 := hsgH.out.2 rfl
      have zD : bits .or .u8 (V15 : Int) 128 = ((V15 + 128 : Nat) : Int) := or_u8_high V15 hV15b
      obtain ⟨V16, hV16⟩ : ∃ x, V15 + 128 = x := ⟨_, rfl⟩
      rw [hV16] at zD
      have hL16 := hL15H.out.set 15 (V16 : Int) (by omega)
      rw [List.set_set] at hL16
      have hl16 : ((ys.set 14 (V14 : Int)).set 15 (V16 : Int)).length = 16 := by simp; exact hylH.out
      obtain ⟨w16, hw16⟩ : ∃ w16, w15.setCell ⟨S, 15, none⟩ (.int .u8 (V16 : Int)) = w16 := ⟨_, rfl⟩
      rw [hw16] at hL16
      have c0 := show w15.cell? ⟨E, 0, none⟩ = some (.pointer (some ⟨W, 0, none⟩)) by rw [cellOf hL15H.out.enc.enc]; rfl
      have c0' := show w16.cell? ⟨E, 0, none⟩ = some (.pointer (some ⟨W, 0, none⟩)) by rw [cellOf hL16.enc.enc]; rfl
      have hWr := Lib.hid (encWrite _ base E S W tr xs _ hL16.enc S 0 16 4096 hl16 (fun j h => by rw [Nat.zero_add]; exact hL16.cells j h (by omega)) (by omega))
      have hES := hL15H.out.enc
      have hk16 := Lib.hid hL16.keep
      have hV16 := Lib.hid hV16
      have hw16 := Lib.hid hw16
      clear hl15 hl16 hL16 hES
      go_wp2_with fail
      refine hS15.out.mono ?_
      rintro e w17 ⟨rfl, hw17⟩
      obtain rfl := hw17.symm
      go_wp2_with fail
      try rw [hw16.out]
      refine hWr.out.mono ?_
      rintro e w18 ⟨rfl, he18, hb18⟩
      have hfin := Lib.hid (And.intro he18 hb18)
      clear he18 hb18
      go_wp2_with fail
      go_end0
      have hlo := h'.out.lo
      have hbs := sizeOf_blk h'.out.enc
      refine ⟨rfl, ?_, hb'.out.trans ((hk16.out.below (by have := hb'.out.size; omega) (fun k hk e => by omega)).trans hfin.out.2)⟩
      have h9 := hfin.out.1
      rw [← hV16.out, ← hHid.out.1, ← hHid.out.2] at h9
      simpa using h9
end Go.Proofs.YtgamldefngehlaaGreatDoor
namespace Go.Proofs.YtgamldefngehlaaGreatDoor
open Go.RowKit
@[go_sem] theorem as_r_rD (v : Value) (w : World) : (Instr.typeAssert (.iface 93 v) 20 93 true).run Tryz.prog w = .ok (.tuple #[v, .bool true]) w := by kernel_rfl
structure DecOf (wm k1 k2 M X : Nat) : Prop where
 m0 : M ≠ 0
 m10 : M % 10 ≠ 0
 le : M ≤ wm
 xl : 6116 ≤ X ∧ X < 6271
 eq : ∃ j t : Nat, M * 10 ^ j = wm * 10 ^ t ∧ (X : Int) = (k2 : Int) - k1 - t + j + 6176
theorem DecOf.of {wm k1 k2 M j t : Nat} {E : Int} (h1 : k1 ≤ 60) (h2 : k2 ≤ 60) (hw : wm < 10 ^ 34) (hM : M ≠ 0) (h10 : M % 10 ≠ 0) (hr : M * 10 ^ j = wm * 10 ^ t) (hE : E = (k2 : Int) - k1 - t + j) : ∃ X : Nat, E + 6176 = (X : Int) ∧ DecOf wm k1 k2 M X := by
 have hle := dec_norm_le hr (.inl h10)
 have hj := dec_exp_lt hr hM hw
 have ht : t ≤ j := by
  rcases Nat.lt_or_ge j t with hlt | hge
  ·obtain ⟨k, rfl⟩ : ∃ k, t = j + (k + 1) := ⟨t - j - 1, by omega⟩
   rw [Nat.pow_add, Nat.pow_succ, ← Nat.mul_assoc, Nat.mul_right_comm wm] at hr
   have := Nat.eq_of_mul_eq_mul_right (ten_pos j) (by rw [hr]; ac_rfl : M * 10 ^ j = wm * 10 ^ k * 10 * 10 ^ j)
   exact absurd (by rw [this]; exact Nat.mul_mod_left _ _) h10
  ·exact hge
 exact ⟨(E + 6176).toNat, by omega, hM, h10, hle, by omega, j, t, hr, by omega⟩
set_option maxRecDepth 100000 in
set_option maxHeartbeats 1000000 in
theorem decField_any (w : World) (base E S W br gr n d wm k1 k2 : Nat) (tr v u : Value) (xs : List Int) (s : Bool) (h : EncAt w base E S W tr xs) (hr : RatAt w br gr s false v u n d) (hI : CvIn n d wm k1 k2) (hwm : wm < 256 ^ 14) (hg : Thr w) (hGL : GL ≤ w.heap.size) (hxl : xs.length ≤ 900000) :
  Calls Tryz.prog 84 #[.pointer (some ⟨E, 0, none⟩), .iface 93 (.pointer (some ⟨gr, 0, none⟩))] w fun e w' => ∃ M X, e = .returned .nilIface ∧ EncAt w' base E S W tr (xs ++ decB s M X) ∧ Below base w w' ∧ DecOf wm k1 k2 M X := by
 have k0 := (Keeps.refl (fun _ => False) w).alloc (.cells #[.bool false, .slice none 0 0] 139)
 have hC := Lib.hid (ratToDec_any (w.alloc (.cells #[.bool false, .slice none 0 0] 139)) br gr w.heap.size n d wm k1 k2 s v u (hr.kept k0 (fun h => h) (fun _ _ h => h) (fun _ _ h => h)) (newAt _ _) hI (hg.kept k0 (fun _ _ h => h)) (Nat.le_trans hGL k0.size) hGL)
 have hSl : S < w.heap.size := by obtain ⟨C, -, hs⟩ := h.scr; exact sizeOf_blk hs
 have hEl := sizeOf_blk h.enc
 have hlo := h.lo
 have hF := Lib.hid (fun (w2 : World) (v' : Value) (M X : Nat) (e0 : Int) (hm : IntAt w2 (w.heap.size + 1) w.heap.size 0 s v' M) (hk : Keeps (fun _ => False) w w2) (hM0 : M ≠ 0) (hX : e0 + 6176 = (X : Int)) (hXl : X < 16384) (hMl : M < 256 ^ 14) => encDec_any w w2 base E S W w.heap.size M X e0 s tr v' xs h (hk.below (by omega) (fun _ _ h => h.elim)) (h.keep (hk.below (Nat.le_refl _) (fun _ _ h => h.elim))) (w.heap.size + 1) hm (fun _ => hM0) (by omega) hSl hX hXl hMl hxl)
 have k0 := Lib.hid k0
 have hIH := Lib.hid hI
 have hwmH := Lib.hid hwm
 clear h hr hI hwm hg hGL
 go_enter Tryz.func84, Tryz.ntmps84
 go_wp2_with fail
 refine hC.out.mono ?_
 rintro e w2 ⟨E0, M, j, t, v', rfl, hm, hk, hM0, h10, hrel, hE⟩
 obtain ⟨X, hX, hD⟩ := DecOf.of hIH.out.h1 hIH.out.h2 hIH.out.hw hM0 h10 hrel hE
 have hk2 : Keeps (fun _ => False) w w2 := k0.out.trans hk (fun k hk e => by omega)
 have hsz : (w.alloc (.cells #[.bool false, .slice none 0 0] 139)).heap.size = w.heap.size + 1 := World.size_alloc ..
 have hF2 := Lib.hid (hF.out w2 v' M X E0 (by rw [← hsz]; exact hm) hk2 hM0 hX (by have := hD.xl; omega) (Nat.lt_of_le_of_lt hD.le hwmH.out))
 have hD := Lib.hid hD
 have hXb : -100 ≤ E0 ∧ E0 ≤ 100 := by have := hD.out.xl; omega
 clear hm hk hM0 h10 hrel hE hX hk2
 go_wp2_with fail
 refine hF2.out.mono ?_
 rintro e w3 ⟨rfl, he3, hb3⟩
 have hfin := Lib.hid (And.intro he3 hb3)
 clear he3 hb3
 go_wp2_with fail
 go_ret
 exact ⟨M, X, rfl, hfin.out.1, hfin.out.2, hD.out⟩
set_option maxRecDepth 100000 in
set_option maxHeartbeats 1000000 in
theorem decField_zero (w : World) (base E S W br gr d : Nat) (tr v u : Value) (xs : List Int) (h : EncAt w base E S W tr xs) (hr : RatAt w br gr false false v u 0 d) (hxl : xs.length ≤ 900000) :
  Calls Tryz.prog 84 #[.pointer (some ⟨E, 0, none⟩), .iface 93 (.pointer (some ⟨gr, 0, none⟩))] w fun e w' => e = .returned .nilIface ∧ EncAt w' base E S W tr (xs ++ decB false 0 6176) ∧ Below base w w' := by
 have k0 := (Keeps.refl (fun _ => False) w).alloc (.cells #[.bool false, .slice none 0 0] 139)
 have hC := Lib.hid (ratToDec_zero (w.alloc (.cells #[.bool false, .slice none 0 0] 139)) br gr w.heap.size d false v u (hr.kept k0 (fun h => h) (fun _ _ h => h) (fun _ _ h => h)) rfl (newAt _ _))
 have hSl : S < w.heap.size := by obtain ⟨C, -, hs⟩ := h.scr; exact sizeOf_blk hs
 have hEl := sizeOf_blk h.enc
 have hlo := h.lo
 have hF := Lib.hid (fun (w2 : World) (v' : Value) (hm : IntAt w2 (w.heap.size + 1) w.heap.size 0 false v' 0) (hk : Keeps (fun _ => False) w w2) => encDec_any w w2 base E S W w.heap.size 0 6176 0 false tr v' xs h (hk.below (by omega) (fun _ _ h => h.elim)) (h.keep (hk.below (Nat.le_refl _) (fun _ _ h => h.elim))) (w.heap.size + 1) hm (fun h => by simp at h) (by omega) hSl (by omega) (by omega) (by decide) hxl)
 have k0 := Lib.hid k0
 clear h hr
 go_enter Tryz.func84, Tryz.ntmps84
 go_wp2_with fail
 refine hC.out.mono ?_
 rintro e w2 ⟨v', rfl, hm, hk⟩
 have hk2 : Keeps (fun _ => False) w w2 := k0.out.trans hk (fun k hk e => by omega)
 have hsz : (w.alloc (.cells #[.bool false, .slice none 0 0] 139)).heap.size = w.heap.size + 1 := World.size_alloc ..
 have hF2 := Lib.hid (hF.out w2 v' (by rw [← hsz]; exact hm) hk2)
 clear hm hk hk2
 go_wp2_with fail
 refine hF2.out.mono ?_
 rintro e w3 ⟨rfl, he3, hb3⟩
 have hfin := Lib.hid (And.intro he3 hb3)
 clear he3 hb3
 go_wp2_with fail
 go_ret
 exact ⟨rfl, hfin.out.1, hfin.out.2⟩
end Go.Proofs.YtgamldefngehlaaGreatDoor
namespace Go.Proofs.YtgamldefngehlaaGreatDoor
def rowN : Nat → Nat → List Nat
 | 0, _ => []
 | n + 1, X => X % WB :: rowN n (X / WB)
theorem rowN_length (n : Nat) : ∀ X, (rowN n X).length = n := by
 induction n with
 | zero => intro X; rfl
 | succ n ih => intro X; simp [rowN, ih]
theorem rowN_words (n : Nat) : ∀ X, Words WB (rowN n X) := by
 induction n with
 | zero => intro X x h; simp [rowN] at h
 | succ n ih =>
  intro X x h
  simp only [rowN, List.mem_cons] at h
  rcases h with rfl | h
  ·exact Nat.mod_lt _ WB_pos
  ·exact ih _ x h
theorem rowN_get (n : Nat) : ∀ (X t : Nat) (h : t < (rowN n X).length), (rowN n X)[t] = X / WB ^ t % WB := by
 induction n with
 | zero => intro X t h; simp [rowN] at h
 | succ n ih =>
  intro X t h
  cases t with
  | zero => simp [rowN]
  | succ t =>
   have h2 : t < (rowN n (X / WB)).length := by simpa [rowN] using h
   have e : (rowN (n + 1) X)[t + 1] = (rowN n (X / WB))[t] := by simp [rowN]
   rw [e, ih _ _ h2, Nat.div_div_eq_div_mul, Nat.pow_succ, Nat.mul_comm WB]
theorem rowN_val (n : Nat) : ∀ X, X < WB ^ n → val WB (rowN n X) = X := by
 induction n with
 | zero => intro X h; simp at h; subst h; rfl
 | succ n ih =>
  intro X h
  simp only [rowN, val]
  rw [ih (X / WB) ((Nat.div_lt_iff_lt_mul WB_pos).2 (by rw [Nat.pow_succ] at h; exact h))]
  have := Nat.mod_add_div X WB
  omega
theorem rowN_zero (n : Nat) : rowN n 0 = List.replicate n 0 := by
 induction n with
 | zero => rfl
 | succ n ih => simp [rowN, ih, List.replicate_succ]
theorem rowN_step (n X b t m : Nat) (hm : m < 8) (hX : X < 256 ^ (8 * t + m)) (hb : b < 256) (ht : t < n) : (rowN n X).set t (X / WB ^ t % WB + b * 256 ^ m) = rowN n (X + b * 256 ^ (8 * t + m)) := by
 refine List.ext_getElem (by simp [rowN_length]) fun i h1 h2 => ?_
 rw [rowN_get, List.getElem_set]
 have hp : 256 ^ m * 256 ^ (8 - m) = WB := by rw [← Nat.pow_add, WB_eq, show m + (8 - m) = 8 by omega]
 have hp1 : 0 < 256 ^ m := Nat.pow_pos (by omega)
 split
 ·rename_i e
  subst e
  have e1 : b * 256 ^ (8 * t + m) = b * 256 ^ m * WB ^ t := by rw [WB_pow, Nat.pow_add]; ac_rfl
  have hW0 : 0 < WB ^ t := Nat.pow_pos WB_pos
  rw [e1, Nat.add_mul_div_right _ _ hW0]
  have h3 : X / WB ^ t < 256 ^ m := (Nat.div_lt_iff_lt_mul hW0).2 (by rw [WB_pow, ← Nat.pow_add, Nat.add_comm]; exact hX)
  have h4 : 256 ^ m * 256 ≤ WB := by rw [← hp]; exact Nat.mul_le_mul_left _ (by rw [show 8 - m = (7 - m) + 1 by omega, Nat.pow_succ]; have := Nat.pow_pos (n := 7 - m) (show 0 < 256 by omega); omega)
  have h5 : X / WB ^ t + b * 256 ^ m < WB := by
   have : (b + 1) * 256 ^ m ≤ 256 * 256 ^ m := Nat.mul_le_mul_right _ (by omega)
   rw [Nat.add_mul] at this
   omega
  rw [Nat.mod_eq_of_lt h5, Nat.mod_eq_of_lt (by omega)]
 ·rename_i e
  rw [rowN_get]
  rcases Nat.lt_or_ge i t with hlt | hge
  ·obtain ⟨d, hd⟩ : ∃ d, 8 * t + m = 8 * i + 8 + d := ⟨8 * t + m - (8 * i + 8), by omega⟩
   have hW8 : WB = 256 ^ 8 := by rw [WB_eq]
   have e1 : b * 256 ^ (8 * t + m) = b * 256 ^ d * WB * WB ^ i := by rw [hd, WB_pow, Nat.pow_add, Nat.pow_add, hW8]; ac_rfl
   rw [e1, Nat.add_mul_div_right _ _ (Nat.pow_pos WB_pos), Nat.add_mul_mod_self_right]
  ·have hgt : t < i := by omega
   have h3 : 256 ^ (8 * t + m) * 256 ≤ WB ^ i := by
    rw [WB_pow, ← Nat.pow_succ]
    exact Nat.pow_le_pow_right (by omega) (by omega)
   have h4 : b * 256 ^ (8 * t + m) ≤ 255 * 256 ^ (8 * t + m) := Nat.mul_le_mul_right _ (by omega)
   rw [Nat.div_eq_of_lt (by omega), Nat.div_eq_of_lt (by omega)]
theorem or_byte (X b t m : Nat) (hm : m < 8) (hX : X < 256 ^ (8 * t + m)) (hb : b < 256) : bits .or .u64 ((X / WB ^ t % WB : Nat) : Int) ((b * 256 ^ m : Nat) : Int) = ((X / WB ^ t % WB + b * 256 ^ m : Nat) : Int) := by
 have hp : 256 ^ m * 256 ^ (8 - m) = WB := by rw [← Nat.pow_add, WB_eq, show m + (8 - m) = 8 by omega]
 have h3 : X / WB ^ t < 256 ^ m := (Nat.div_lt_iff_lt_mul (Nat.pow_pos WB_pos)).2 (by rw [WB_pow, ← Nat.pow_add, Nat.add_comm]; exact hX)
 have h4 : 256 ^ m * 256 ≤ WB := by rw [← hp]; exact Nat.mul_le_mul_left _ (by rw [show 8 - m = (7 - m) + 1 by omega, Nat.pow_succ]; have := Nat.pow_pos (n := 7 - m) (show 0 < 256 by omega); omega)
 have h5 : b * 256 ^ m ≤ 255 * 256 ^ m := Nat.mul_le_mul_right _ (by omega)
 have hp1 : 0 < 256 ^ m := Nat.pow_pos (by omega)
 refine orI (Nat.mod_lt _ WB_pos) (by omega) ?_
 rw [Nat.mod_eq_of_lt (by omega)]
 have e : 256 ^ m = 2 ^ (8 * m) := by rw [Nat.pow_mul]
 rw [e] at h3 ⊢
 rw [Nat.or_comm, ← Nat.shiftLeft_eq, Nat.add_comm, Nat.shiftLeft_add_eq_or_of_lt h3]
end Go.Proofs.YtgamldefngehlaaGreatDoor
