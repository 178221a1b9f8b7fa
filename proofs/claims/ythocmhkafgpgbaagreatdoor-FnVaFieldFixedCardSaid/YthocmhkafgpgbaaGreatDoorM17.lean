/- Parts of the walk. -/
import Derived.Test.YthocmhkafgpgbaaGreatDoorM01
import Derived.Test.YthocmhkafgpgbaaGreatDoorM16
set_option linter.unusedVariables false
set_option linter.unusedSimpArgs false
namespace Go.Proofs.YthocmhkafgpgbaaGreatDoor
open Go.RowKit
theorem Tryz.info5 : (Tryz.prog.info? 5).map (fun i => (i.zero, i.size, i.bytes)) = some (some (.int .u8 0), 1, 1) := by kernel_rfl
structure WrAt (w : World) (base W : Nat) (v : Value) (xs : List Int) : Prop where
 blk : w.heap[W]? = some (.cells #[v] 72 (0, 0))
 own : w.ownsRow base 5 1 v xs.length (u8s xs)
set_option maxRecDepth 100000 in
theorem write_any (w : World) (base W : Nat) (v : Value) (xs ys : List Int) (hw : WrAt w base W v xs) (hbW : base ≤ W) (b o n c : Nat) (hn : ys.length = n) (hy : ∀ j (h : j < ys.length), w.cell? ⟨b, o + j, none⟩ = some (.int .u8 ys[j]))
  (hl : xs.length + ys.length ≤ 1000000) :
  Calls Tryz.prog 169 #[.pointer (some ⟨W, 0, none⟩), .slice (some ⟨b, o, none⟩) n c] w fun e w' =>
   e = .returned (.tuple #[.int .i64 n, .nilIface]) ∧ ∃ v', WrAt w' base W v' (xs ++ ys) ∧ Keeps (fun k => k = W ∨ some k = v.ownBlock) w w' ∧ (v'.ownBlock = v.ownBlock ∨ v'.ownBlock = some w.heap.size) := by
 subst hn
 obtain ⟨i0, hi, hz0, hz1, hz2⟩ := info_parts Tryz.info5
 obtain ⟨hv, hown⟩ := hw
 have hc : w.cell? ⟨W, 0, none⟩ = some v := by rw [cellOf hv]; rfl
 have hf : w.frozen? ⟨W, 0, none⟩ = false := frozenOf hv 0
 have hW := sizeOf_blk hv
 go_enter Tryz.func169, Tryz.ntmps169
 go_wp2_with (at_builtin; refine wpList_append_own_at _ rfl (.tmp 10) (.tmp 11) 22 rfl base 5 i0 (.int .u8 0) 1 1 Tryz.underlying22 hi hz0 hz1 hz2 rfl (by decide) _ _ _ rfl hown ⟨b, o, none⟩ _ _ (u8s ys) rfl (by simp) ?c1 ?c2 ?c3 ?c4 ?c5 ?_)
 case c1 =>
  intro j u hj
  obtain ⟨hj', rfl⟩ := List.getElem?_eq_some_iff.1 hj
  simp only [List.length_map] at hj'
  have := hy j hj'
  simp only [List.getElem_map]
  rw [Addr.add_lit]; exact this
 case c2 => intro u hu; simp at hu; obtain ⟨_, _, rfl⟩ := hu; rfl
 case c3 => unfold maxLen; omega
 case c4 => omega
 case c5 => omega
 intro v' w1 hown' hgrow hnil hat
 obtain ⟨A', c', rfl⟩ := ownsRow_slice hown'
 have hne := ownBlock_ne hown hv (by decide)
 have hv1 := (hgrow.block W hW hne).trans hv
 have hc1 : w1.cell? ⟨W, 0, none⟩ = some v := by rw [cellOf hv1]; rfl
 have hf1 : w1.frozen? ⟨W, 0, none⟩ = false := frozenOf hv1 0
 have hne' := ownBlock_ne hown' hv1 (by decide)
 clear hnil
 go_wp2
 go_ret2
 refine ⟨rfl, _, ⟨blk_setCell hv1 0 _, ?_⟩, ?_, hat⟩
 ·have h1 : w1.ownsRow base 5 1 (.slice A' (xs.length + ys.length) c') (xs ++ ys).length (u8s (xs ++ ys)) := by simpa using hown'
  exact ((Keeps.refl (fun k => k = W) w1).setCell ⟨W, 0, none⟩ _ (fun _ => rfl)).ownsRow h1 (fun k hk e => hne' (by rw [hk, e]))
 ·exact ((Keeps.refl _ w).grown hgrow (fun k _ hk => .inr hk.symm)).setCell _ _ (fun _ => .inl rfl)
def TrBlk (w : World) (tr : Value) : Prop := ∃ b, tr = .iface 159 (.pointer (some ⟨b, 0, none⟩)) ∧ w.heap[b]? = some (.cells #[.nilFunc] 289 (0, 0))
structure EncAt (w : World) (base E S W : Nat) (tr : Value) (xs : List Int) : Prop where
 enc : w.heap[E]? = some (.cells #[.pointer (some ⟨W, 0, none⟩), .slice (some ⟨S, 0, none⟩) 4096 4096, tr] 158 (0, 0))
 scr : ∃ C : Array Value, C.size = 4096 ∧ w.heap[S]? = some (.cells C 5 (0, 0))
 wr : ∃ v, WrAt w base W v xs ∧ some S ≠ v.ownBlock
 lo : base ≤ E ∧ base ≤ S ∧ base ≤ W
 tra : TrBlk w tr
theorem EncAt.keep {w w' : World} {base E S W : Nat} {tr : Value} {xs : List Int} (h : EncAt w base E S W tr xs) (hb : Below w.heap.size w w') : EncAt w' base E S W tr xs := by
 obtain ⟨v, ⟨hv, ho⟩, hS⟩ := h.wr
 obtain ⟨C, hC, hs⟩ := h.scr
 have hk : ∀ {k : Nat} {o : Obj}, w.heap[k]? = some o → w'.heap[k]? = some o := fun hk => (hb.block _ (sizeOf_blk hk)).trans hk
 obtain ⟨tb, te, ht⟩ := h.tra
 refine ⟨hk h.enc, ⟨C, hC, hk hs⟩, ⟨v, ⟨hk hv, ?_⟩, hS⟩, h.lo, ⟨tb, te, hk ht⟩⟩
 exact (show Keeps (fun _ => False) w w' from ⟨hb.os, hb.tape, hb.output, hb.size, fun k hk _ => hb.block k hk⟩).ownsRow ho (fun _ _ => id)
theorem ownBlock_ge {w : World} {base n : Nat} {e : TypeId} {size : Nat} {v : Value} {xs : List Value} (h : w.ownsRow base e size v n xs) (k : Nat) (hk : some k = v.ownBlock) : base ≤ k ∧ k < w.heap.size := h.lt k hk.symm
set_option maxRecDepth 100000 in
theorem bytes_any (w : World) (base E S W : Nat) (tr : Value) (xs ys : List Int) (h : EncAt w base E S W tr xs) (b o n c : Nat) (hn : ys.length = n) (hy : ∀ j (h : j < ys.length), w.cell? ⟨b, o + j, none⟩ = some (.int .u8 ys[j]))
  (hl : xs.length + ys.length ≤ 1000000) :
  Calls Tryz.prog 142 #[.pointer (some ⟨E, 0, none⟩), .slice (some ⟨b, o, none⟩) n c] w fun e w' =>
   e = .returned (.tuple #[]) ∧ EncAt w' base E S W tr (xs ++ ys) ∧ Below base w w' := by
 obtain ⟨v, hwr, hS⟩ := h.wr
 obtain ⟨C, hC, hs⟩ := h.scr
 obtain ⟨l1, l2, l3⟩ := h.lo
 have he := h.enc
 have c0 : w.cell? ⟨E, 0, none⟩ = some (.pointer (some ⟨W, 0, none⟩)) := by rw [cellOf he]; rfl
 obtain ⟨tb, te, ht⟩ := h.tra
 have hTW : tb ≠ W := fun e => by have := hwr.blk; rw [← e, ht] at this; simp at this
 have hTv := ownBlock_ne hwr.own ht (by decide)
 have ht' := Lib.hid (And.intro te ht); clear te ht
 have hC' := Lib.hid hC; clear hC
 have hn' := Lib.hid hn; clear hn
 go_enter Tryz.func142, Tryz.ntmps142
 go_wp2_with fail
 refine (write_any w base W v xs ys hwr l3 b o n c hn'.out hy hl).mono ?_
 rintro e w1 ⟨rfl, v', hwr', hk, hat⟩
 have hEW : E ≠ W := fun e => by have := hwr.blk; rw [← e, he] at this; simp at this
 have hSW : S ≠ W := fun e => by have := hwr.blk; rw [← e, hs] at this; simp at this
 have hEv := ownBlock_ne hwr.own he (by decide)
 have he1 := hk.at_ he (fun x => x.elim hEW hEv)
 have hs1 := hk.at_ hs (fun x => x.elim hSW hS)
 have hbel : Below base w w1 := hk.below (by have := sizeOf_blk he; omega) (fun k hk' x => x.elim (fun e => by omega) (fun e => by have := (ownBlock_ge hwr.own k e).1; omega))
 go_wp2
 go_end0
 refine ⟨rfl, ⟨he1, ⟨C, hC'.out, hs1⟩, ⟨v', hwr', ?_⟩, ⟨l1, l2, l3⟩, ⟨tb, ht'.out.1, hk.at_ ht'.out.2 (fun x => x.elim hTW hTv)⟩⟩, hbel⟩
 rcases hat with hat | hat
 ·rw [hat]; exact hS
 ·rw [hat]; have := sizeOf_blk hs; intro e; injection e; omega
theorem EncAt.store {w : World} {base E S W : Nat} {tr : Value} {xs : List Int} (h : EncAt w base E S W tr xs) (i : Nat) (u : Value) : EncAt (w.setCell ⟨S, i, none⟩ u) base E S W tr xs := by
 obtain ⟨v, ⟨hv, ho⟩, hS⟩ := h.wr
 obtain ⟨C, hC, hs⟩ := h.scr
 obtain ⟨tb, te, ht⟩ := h.tra
 have hTS : tb ≠ S := fun e => by rw [← e, ht] at hs; simp at hs
 have he := h.enc
 have hES : E ≠ S := fun e => by rw [← e, he] at hs; simp at hs
 have hWS : W ≠ S := fun e => by rw [← e, hv] at hs; simp at hs
 have hk : Keeps (fun k => k = S) w (w.setCell ⟨S, i, none⟩ u) := (Keeps.refl _ w).setCell _ _ (fun _ => rfl)
 exact ⟨hk.at_ he hES, ⟨_, by simpa using hC, blk_setCell hs i u⟩, ⟨v, ⟨hk.at_ hv hWS, hk.ownsRow ho (fun k e x => hS (by rw [e, x]))⟩, hS⟩, h.lo, ⟨tb, te, hk.at_ ht hTS⟩⟩
theorem EncAt.cell {w : World} {base E S W : Nat} {tr : Value} {xs : List Int} (h : EncAt w base E S W tr xs) (i : Nat) (hi : i < 4096) : (∃ u, w.cell? ⟨S, i, none⟩ = some u) ∧ w.frozen? ⟨S, i, none⟩ = false := by
 obtain ⟨C, hC, hs⟩ := h.scr
 exact ⟨⟨C[i]'(by omega), by rw [cellOf hs]; simp [hC, hi]⟩, frozenOf hs i⟩
set_option maxRecDepth 100000 in
theorem byte_any (w : World) (base E S W : Nat) (tr : Value) (xs : List Int) (h : EncAt w base E S W tr xs) (x : Int) (hl : xs.length ≤ 900000) :
  Calls Tryz.prog 70 #[.pointer (some ⟨E, 0, none⟩), .int .u8 x] w fun e w' =>
   e = .returned (.tuple #[]) ∧ EncAt w' base E S W tr (xs ++ [x]) ∧ Below base w w' := by
 have he := h.enc
 have c1 : w.cell? ⟨E, 1, none⟩ = some (.slice (some ⟨S, 0, none⟩) 4096 4096) := by rw [cellOf he]; rfl
 obtain ⟨⟨u, s0⟩, f0⟩ := h.cell 0 (by decide)
 have hES : E ≠ S := fun e => by obtain ⟨C, hC, hs⟩ := h.scr; rw [← e, he] at hs; simp at hs
 have hst := h.store 0 (.int .u8 x)
 have l2 := h.lo.2.1
 go_enter Tryz.func70, Tryz.ntmps70
 go_wp2_with fail
 refine (bytes_any _ base E S W tr xs [x] hst S 0 1 4096 rfl ?_ (by simp; omega)).mono ?_
 ·intro j hj
  obtain rfl : j = 0 := by simpa using hj
  exact World.cell?_setCell_same _ _ _ s0
 rintro e w1 ⟨rfl, hen, hb⟩
 go_wp2
 go_end0
 exact ⟨rfl, hen, ((Below.refl base w).setCell l2 _).trans hb⟩
end Go.Proofs.YthocmhkafgpgbaaGreatDoor
namespace Go.Proofs.YthocmhkafgpgbaaGreatDoor
open Go.RowKit
def zeros4k : Array Value := madeCells #[.int .u8 0] 4096
theorem zeros4k_size : zeros4k.size = 4096 := by simp [zeros4k, madeCells]
theorem zeros4k_list : zeros4k.toList.toArray = zeros4k := Array.toArray_toList
theorem make4k (W : World) : (Instr.makeSlice 22 (.int .i64 4096) (.int .i64 4096)).run Tryz.prog W = .ok (.slice (some ⟨W.heap.size, 0, none⟩) 4096 4096) (W.alloc (.cells zeros4k 5)) :=
 run_make_row' 22 5 (.int .u8 0) 1 Tryz.underlying22 Tryz.info5 rfl .i64 .i64 4096 (by decide) (by decide) W
attribute [irreducible] zeros4k
def TrE (tr : Value) : Prop := ∃ a, tr = .iface 159 (.pointer (some a))
set_option maxRecDepth 100000 in
theorem encoder_any (w : World) (base W : Nat) (hW : w.heap[W]? = some (.cells #[.slice none 0 0] 72 (0, 0))) (hbW : base ≤ W) :
  Calls Tryz.prog 27 #[.pointer (some ⟨W, 0, none⟩)] w fun e w' =>
   ∃ E S tr, e = .returned (.pointer (some ⟨E, 0, none⟩)) ∧ TrE tr ∧ EncAt w' base E S W tr [] ∧ Below w.heap.size w w' := by
 have hmk := make4k
 have hlW := sizeOf_blk hW
 go_enter Tryz.func27, Tryz.ntmps27
 go_wp2
 go_ret
 refine ⟨w.heap.size + 1 + 1, w.heap.size + 1, .iface 159 (.pointer (some ⟨w.heap.size, 0, none⟩)), rfl, ⟨_, rfl⟩, ⟨blk_new' _ _ _ (by simp), ⟨zeros4k, zeros4k_size, blk_alloc (blk_new' _ _ _ (by simp)) _⟩, ⟨.slice none 0 0, ⟨blk_alloc (blk_alloc (blk_alloc hW _) _) _, by simp, .inl ⟨rfl, rfl⟩⟩, by simp [Value.ownBlock]⟩, ⟨by omega, by omega, hbW⟩, ⟨w.heap.size, rfl, blk_alloc (blk_alloc (blk_new _ _) _) _⟩⟩, ?_⟩
 exact (((Below.refl _ _).alloc (Nat.le_refl _) _).alloc (by simp) _).alloc (by simp; omega) _
end Go.Proofs.YthocmhkafgpgbaaGreatDoor
namespace Go.Proofs.YthocmhkafgpgbaaGreatDoor
open Go.RowKit
set_option maxRecDepth 100000 in
theorem encWrite (w : World) (base E S W : Nat) (tr : Value) (xs ys : List Int) (h : EncAt w base E S W tr xs) (b o n c : Nat) (hn : ys.length = n) (hy : ∀ j (h : j < ys.length), w.cell? ⟨b, o + j, none⟩ = some (.int .u8 ys[j]))
  (hl : xs.length + ys.length ≤ 1000000) :
  Calls Tryz.prog 169 #[.pointer (some ⟨W, 0, none⟩), .slice (some ⟨b, o, none⟩) n c] w fun e w' =>
   e = .returned (.tuple #[.int .i64 n, .nilIface]) ∧ EncAt w' base E S W tr (xs ++ ys) ∧ Below base w w' := by
 obtain ⟨v, hwr, hS⟩ := h.wr
 obtain ⟨C, hC, hs⟩ := h.scr
 obtain ⟨l1, l2, l3⟩ := h.lo
 have he := h.enc
 refine (write_any w base W v xs ys hwr l3 b o n c hn hy hl).mono ?_
 rintro e w1 ⟨rfl, v', hwr', hk, hat⟩
 obtain ⟨tb, te, ht⟩ := h.tra
 have hTW : tb ≠ W := fun e => by have := hwr.blk; rw [← e, ht] at this; simp at this
 have hTv := ownBlock_ne hwr.own ht (by decide)
 have hEW : E ≠ W := fun e => by have := hwr.blk; rw [← e, he] at this; simp at this
 have hSW : S ≠ W := fun e => by have := hwr.blk; rw [← e, hs] at this; simp at this
 have hEv := ownBlock_ne hwr.own he (by decide)
 have he1 := hk.at_ he (fun x => x.elim hEW hEv)
 have hs1 := hk.at_ hs (fun x => x.elim hSW hS)
 have hbel : Below base w w1 := hk.below (by have := sizeOf_blk he; omega) (fun k hk' x => x.elim (fun e => by omega) (fun e => by have := (ownBlock_ge hwr.own k e).1; omega))
 refine ⟨rfl, ⟨he1, ⟨C, hC, hs1⟩, ⟨v', hwr', ?_⟩, ⟨l1, l2, l3⟩, ⟨tb, te, hk.at_ ht (fun x => x.elim hTW hTv)⟩⟩, hbel⟩
 rcases hat with hat | hat
 ·rw [hat]; exact hS
 ·rw [hat]; have := sizeOf_blk hs; intro e; injection e; omega
theorem EncAt.drew {w : World} {base E S W : Nat} {tr : Value} {xs : List Int} (h : EncAt w base E S W tr xs) : EncAt w.drew base E S W tr xs := h.keep ⟨rfl, rfl, rfl, Nat.le_refl _, fun _ _ => rfl⟩
end Go.Proofs.YthocmhkafgpgbaaGreatDoor
namespace Go.Proofs.YthocmhkafgpgbaaGreatDoor
open Go.RowKit
structure LaidB (w wr : World) (base E S W : Nat) (tr : Value) (xs ys : List Int) (j : Nat) : Prop where
 enc : EncAt wr base E S W tr xs
 keep : Keeps (fun k => k = S) w wr
 cells : ∀ i (h : i < ys.length), i < j → wr.cell? ⟨S, i, none⟩ = some (.int .u8 ys[i])
theorem LaidB.step {w wr : World} {base E S W : Nat} {tr : Value} {xs ys : List Int} {j : Nat} (h : LaidB w wr base E S W tr xs ys j) (b : Int) (hj : j < 4096) (hb : ∀ h : j < ys.length, ys[j] = b) :
  LaidB w (wr.setCell ⟨S, j, none⟩ (.int .u8 b)) base E S W tr xs ys (j + 1) := by
 obtain ⟨⟨u, hu⟩, hf⟩ := h.enc.cell j hj
 refine ⟨h.enc.store j _, h.keep.setCell _ _ (fun _ => rfl), fun i hi hij => ?_⟩
 by_cases e : i = j
 ·subst e
  rw [hb hi]
  exact cell_set_same hu _
 ·rw [cell_set_ne (by simp [e])]
  exact h.cells i hi (by omega)
set_option maxRecDepth 100000 in
set_option maxHeartbeats 1000000 in
theorem encFixed_pos (w0 w : World) (base E S W gm N size : Nat) (tr v : Value) (xs : List Int) (h : EncAt w0 base E S W tr xs) (hb : Keeps (fun _ => False) w0 w) (hm : IntAt w w0.heap.size gm 0 false v N) (hgm : w0.heap.size ≤ gm) (hsz : size = 8 ∨ size = 12 ∨ size = 16) (ys : List Int) (hyl : ys.length = size)
  (hW : ∀ t (h : t < (digs WB N).length) i, i < 8 → ∀ h2 : 8 * t + i < ys.length, ys[8 * t + i] = (((digs WB N)[t] / 256 ^ i % 256 : Nat) : Int)) (hF : ∀ j (h : j < ys.length), 8 * (digs WB N).length ≤ j → ys[j] = 0) (hlen : (digs WB N).length ≤ 10000) (hxl : xs.length ≤ 900000) :
  Calls Tryz.prog 232 #[.pointer (some ⟨E, 0, none⟩), .pointer (some ⟨gm, 0, none⟩), .int .i64 size] w fun e w' => e = .returned (.tuple #[]) ∧ EncAt w' base E S W tr (xs ++ ys) ∧ Below base w0 w' := by
 obtain ⟨pv, cv, rfl⟩ := NatRow.form hm.nat
 have hS := Lib.hid (intSign_any w w0.heap.size gm 0 N false _ hm (by simp))
 have hB := Lib.hid (intBits_any w w0.heap.size gm 0 false _ _ hm.row)
 have hSl : S < w0.heap.size := by obtain ⟨C, -, hs⟩ := h.scr; exact sizeOf_blk hs
 have hE := h.keep (hb.below (Nat.le_refl _) (fun _ _ h => h.elim))
 have he := hE.enc
 have c1 : w.cell? ⟨E, 1, none⟩ = some (.slice (some ⟨S, 0, none⟩) 4096 4096) := by rw [cellOf he]; rfl
 have t1 : (size : Int) ≤ 4096 := by omega
 have t2 : (0 : Int) ≤ size := by omega
 have t3 : ¬ (if N = 0 then (0:Int) else if (false : Bool) = true then -1 else 1) = -1 := by by_cases e : N = 0 <;> simp [e]
 generalize (if N = 0 then (0:Int) else if (false : Bool) = true then -1 else 1) = sg at *
 have hrow' := hm.nat
 unfold NatAt at hrow'
 generalize digs WB N = ds at *
 have hb' := Lib.hid hb
 have h' := Lib.hid h
 have hcl := Lib.hid (And.intro hgm hxl)
 clear h hb hm he hgm hxl
 go_enter Tryz.func232, Tryz.ntmps232
 go_wp2_with fail
 refine hS.out.mono ?_
 rintro e w1 ⟨rfl, hw1⟩
 obtain rfl := hw1.symm
 go_wp2_with fail
 refine hB.out.mono ?_
 rintro e w1 ⟨rfl, hw1⟩
 obtain rfl := hw1.symm
 clear c1 t3 hS hB
 have hbb := Lib.hid (show Below base w0 w from hb'.out.below (by have := h'.out.lo; have := sizeOf_blk h'.out.enc; omega) (fun _ _ h => h.elim))
 obtain ⟨L, hL⟩ : ∃ L, ds.length = L := ⟨_, rfl⟩
 rw [hL] at hF hrow' ⊢
 have hLb : L ≤ 10000 := by omega
 have hl0 : LaidB w w base E S W tr xs ys 0 := ⟨hE, Keeps.refl _ _, fun i h h2 => absurd h2 (Nat.not_lt_zero _)⟩
 have hE' := Lib.hid hE
 have hyl' := Lib.hid hyl
 have hL' := Lib.hid hL
 have hW' := Lib.hid hW
 have hF' := Lib.hid hF
 have hrow'' := Lib.hid hrow'
 clear hE hW hF hyl hrow' hL
 go_wp2_with fail
 go_loopw [11, 52] (fun j ix wr => ∃ k q : Nat, k ≤ L ∧ q = min (8 * k) size ∧ j = .int .i64 q ∧ ix = .int .i64 k ∧ LaidB w wr base E S W tr xs ys q) (fun _ ix _ => L - (intOf ix).toNat)
 case atStart => exact ⟨0, 0, Nat.zero_le _, by omega, rfl, rfl, hl0⟩
 case round =>
  obtain ⟨k, q, hk, hq, rfl, rfl, hB⟩ := hrel
  have hqH := Lib.hid hq
  have hqz : q ≤ size := by omega
  have hq8 : q = size ∨ q = 8 * k := by omega
  clear hq
  by_cases hlt : k < L
  ·have t0 : (k : Int) < L := by omega
   have hL := hL'.out
   obtain ⟨b, C, hv, hbb, hCx, hwx, htx, h0x, hlx⟩ : ∃ b C, Value.slice pv L cv = .slice (some ⟨b, 0, none⟩) ds.length C.length ∧ w0.heap.size ≤ b ∧ Blk w b C ∧ Words WB C ∧ C.take ds.length = ds ∧ 0 < C.length ∧ C.length ≤ 1000000 := by
    rcases hrow''.out with ⟨hv, e⟩ | ⟨b, C, hv, h1, h2, h3, h4, h5, h6⟩
    ·rw [e] at hL; simp at hL; omega
    ·exact ⟨b, C, by rw [hL]; rw [hL] at hv; exact hv, h1, h2, h3, h4, h5, h6⟩
   injection hv with h1 h2 h3
   subst h1 h3
   have hbS : b ≠ S := by omega
   have hvx := hCx.row (xs := ds) htx (by rw [← htx]; simp; omega)
   have hck := hB.keep.cellS (hvx k (by omega)) (fun e => hbS e)
   rw [Nat.zero_add] at hck
   have wd := (show Words WB ds from htx ▸ hwx.take _).get k (by omega)
   have hW := fun i (hi : i < 8) (h2 : 8 * k + i < ys.length) => hW'.out k (by omega) i hi h2
   obtain ⟨d, hd⟩ : ∃ d, ∀ h : k < ds.length, ds[k] = d := ⟨ds[k]'(by omega), fun _ => rfl⟩
   simp only [hd] at hW
   rw [hd] at hck wd
   have hW'' := Lib.hid hW
   clear hL hW hvx hCx hwx htx h0x hlx h2
   go_wp2_with fail
   obtain ⟨wo, hwo⟩ : ∃ x, x = wr := ⟨_, rfl⟩
   subst hwo
   go_loopw [11, 13, 14] (fun j dd i wx => ∃ m q' : Nat, m ≤ 8 ∧ q' = min (8 * k + m) size ∧ j = .int .i64 q' ∧ dd = .int .u64 (d / 256 ^ m : Nat) ∧ i = .int .i64 m ∧ LaidB w wx base E S W tr xs ys q') (fun _ _ i _ => 8 - (intOf i).toNat)
   case atStart => exact ⟨0, q, by omega, by have := hqH.out; omega, rfl, by rw [Nat.pow_zero, Nat.div_one], rfl, hB⟩
   case round =>
    obtain ⟨m, q', hm, hq', rfl, rfl, rfl, hB'⟩ := hrel
    by_cases hm8 : m < 8
    ·have t1 : (m : Int) < 8 := by omega
     by_cases hqs : q' < size
     ·have t2 : (q' : Int) < size := by omega
      have t3 : (0 : Int) ≤ q' := by omega
      obtain ⟨dm, hdm⟩ : ∃ x, d / 256 ^ m = x := ⟨_, rfl⟩
      obtain ⟨⟨u, hu⟩, hfz⟩ := hB'.enc.cell q' (by omega)
      have hst := hB'.step ((dm % 256 : Nat) : Int) (by omega) (fun h => by
       have := hW''.out m hm8 (by omega)
       rw [hdm] at this
       rw [← this]
       congr 1
       omega)
      have hst := Lib.hid hst
      have hdl : dm < WB := by rw [← hdm]; exact Nat.lt_of_le_of_lt (Nat.div_le_self _ _) wd
      have e2 : IntKind.u8.wrap (dm : Int) = ((dm % 256 : Nat) : Int) := by simp [IntKind.wrap, IntKind.bits, IntKind.signed]
      have e3 : (dm : Int) / 256 = ((dm / 256 : Nat) : Int) := by simp
      have e4 : dm / 256 = d / 256 ^ (m + 1) := by rw [← hdm, Nat.div_div_eq_div_mul, Nat.pow_succ]
      rw [hdm]
      generalize hlo : dm % 256 = lo at *
      generalize hdq : dm / 256 = dq at *
      have hq1 := Lib.hid (show q' + 1 = min (8 * k + (m + 1)) size by omega)
      replace e4 := Lib.hid e4
      clear hB' hdm hdl hB hq'
      go_wp2_with fail
      go_roundw
      case rel => exact ⟨m + 1, q' + 1, by omega, hq1.out, by go_num, by rw [← e4.out], by go_num, hst.out⟩
      case measure => simp [intOf]; omega
     ·have t2 : ¬ (q' : Int) < size := by omega
      have hqe := Lib.hid (show q' = min (8 * (k + 1)) size by omega)
      clear hq'
      clear hB
      go_wp2_with fail
      go_roundw
      case rel => exact ⟨k + 1, q', by omega, hqe.out, rfl, by go_num, hB'⟩
      case measure => simp [intOf]; omega
    ·obtain rfl : m = 8 := by omega
     have hqe := Lib.hid (show q' = min (8 * (k + 1)) size by omega)
     clear hB hq'
     go_wp2_with fail
     go_roundw
     case rel => exact ⟨k + 1, q', by omega, hqe.out, rfl, by go_num, hB'⟩
     case measure => simp [intOf]; omega
  ·obtain rfl : k = L := by omega
   have hF := hF'.out
   have hyl := hyl'.out
   go_wp2_with fail
   clear hyl
   go_loopw [15] (fun i wx => ∃ p : Nat, q ≤ p ∧ p ≤ size ∧ i = .int .i64 p ∧ LaidB w wx base E S W tr xs ys p) (fun i _ => size - (intOf i).toNat)
   case atStart => exact ⟨q, Nat.le_refl _, hqz, rfl, hB⟩
   case round =>
    obtain ⟨p, hqp, hp, rfl, hB'⟩ := hrel
    by_cases hps : p < size
    ·have t2 : (p : Int) < size := by omega
     have t3 : (0 : Int) ≤ p := by omega
     obtain ⟨⟨u, hu⟩, hfz⟩ := hB'.enc.cell p (by omega)
     have hst := Lib.hid (hB'.step 0 (by omega) (fun h => hF p h (by omega)))
     clear hB' hB hF
     go_wp2_with fail
     go_roundw
     case rel => exact ⟨p + 1, by omega, by omega, by go_num, hst.out⟩
     case measure => simp [intOf]; omega
    ·obtain rfl : p = size := by omega
     have t2 : ¬ (p : Int) < p := by omega
     have hyl := hyl'.out
     have hwr := hB'.enc.enc
     have c0 := show wr.cell? ⟨E, 0, none⟩ = some (.pointer (some ⟨W, 0, none⟩)) by rw [cellOf hwr]; rfl
     have hWr := encWrite _ base E S W tr xs ys hB'.enc S 0 p 4096 hyl (fun j h => by rw [Nat.zero_add]; exact hB'.cells j h (by omega)) (by have := hcl.out.2; omega)
     have hWr := Lib.hid hWr
     have hlo := h'.out.lo
     have hbs := sizeOf_blk h'.out.enc
     have hkk := Lib.hid (show Below base w0 wr from hbb.out.trans (hB'.keep.below (by have := hbb.out.size; omega) (fun k hk e => by omega)))
     clear hlo hbs
     clear hB hB' hwr hF hyl
     go_wp2_with fail
     refine hWr.out.mono ?_
     rintro e w9 ⟨rfl, he9, hb9⟩
     have hfin := Lib.hid (And.intro he9 (hkk.out.trans hb9))
     clear he9 hb9
     go_wp2_with fail
     go_end0
     exact ⟨rfl, hfin.out⟩
def invW (xs : List Nat) : List Nat := xs.map fun d => WB - 1 - d
theorem inv_step (C ds : List Nat) (L k : Nat) (h : C.take L = ds) (hL : ds.length = L) (hk : k < L) : (((invW ds).take k ++ C.drop k).set k (WB - 1 - ds[k]'(by omega))) = (invW ds).take (k + 1) ++ C.drop (k + 1) := by
 have hC : L ≤ C.length := by rw [← h] at hL; simp at hL; omega
 have e1 : ((invW ds).take k).length = k := by simp [invW]; omega
 rw [List.set_append_right _ _ (by omega), e1, Nat.sub_self, List.drop_eq_getElem_cons (by omega : k < C.length), List.set_cons_zero]
 rw [List.take_succ_eq_append_getElem (by simp [invW]; omega : k < (invW ds).length)]
 simp [invW]
theorem inv_cell (C ds : List Nat) (L k : Nat) (h : C.take L = ds) (hL : ds.length = L) (hk : k < L) (hh : k < ((invW ds).take k ++ C.drop k).length) : ((invW ds).take k ++ C.drop k)[k] = ds[k]'(by omega) := by
 have hC : L ≤ C.length := by rw [← h] at hL; simp at hL; omega
 have e1 : ((invW ds).take k).length = k := by simp [invW]; omega
 subst h
 rw [List.getElem_append_right (by omega)]
 simp [e1]
set_option maxRecDepth 100000 in
set_option maxHeartbeats 1000000 in
theorem encFixed_neg (w0 w : World) (base E S W gm N size : Nat) (tr v : Value) (xs : List Int) (h : EncAt w0 base E S W tr xs) (hb : Keeps (fun _ => False) w0 w) (hm : IntAt w w0.heap.size gm 0 true v N) (hN0 : N ≠ 0) (hgm : w0.heap.size ≤ gm) (hsz : size = 8 ∨ size = 12 ∨ size = 16) (ys : List Int) (hyl : ys.length = size)
  (hW : ∀ t (h : t < (digs WB (val WB (invW (digs WB N)) + 1)).length) i, i < 8 → ∀ h2 : 8 * t + i < ys.length, ys[8 * t + i] = (((digs WB (val WB (invW (digs WB N)) + 1))[t] / 256 ^ i % 256 : Nat) : Int)) (hF : ∀ j (h : j < ys.length), 8 * (digs WB (val WB (invW (digs WB N)) + 1)).length ≤ j → ys[j] = 255) (hlen0 : (digs WB N).length ≤ 10000) (hlen : (digs WB (val WB (invW (digs WB N)) + 1)).length ≤ 10000) (hxl : xs.length ≤ 900000) :
  Calls Tryz.prog 232 #[.pointer (some ⟨E, 0, none⟩), .pointer (some ⟨gm, 0, none⟩), .int .i64 size] w fun e w' => e = .returned (.tuple #[]) ∧ EncAt w' base E S W tr (xs ++ ys) ∧ Below base w0 w' := by
 have hSl : S < w0.heap.size := by obtain ⟨C, -, hs⟩ := h.scr; exact sizeOf_blk hs
 have hE := h.keep (hb.below (Nat.le_refl _) (fun _ _ h => h.elim))
 have he := hE.enc
 have c1 : w.cell? ⟨E, 1, none⟩ = some (.slice (some ⟨S, 0, none⟩) 4096 4096) := by rw [cellOf he]; rfl
 have t1 : (size : Int) ≤ 4096 := by omega
 have t2 : (0 : Int) ≤ size := by omega
 have hS := intSign_any w w0.heap.size gm 0 N true v hm (fun _ => hN0)
 rw [if_neg hN0, if_pos rfl] at hS
 replace hS := Lib.hid hS
 have hNg := intNegSelf_any w w0.heap.size gm 0 N true v hm
 rw [show (decide (N ≠ 0) && !true) = false by simp] at hNg
 replace hNg := Lib.hid hNg
 have hm1 : IntAt (w.setCell ⟨gm, 0, none⟩ (.bool false)) w0.heap.size gm 0 false v N := (hm.self false).at_
 have k1 : Keeps (fun _ => False) w0 (w.setCell ⟨gm, 0, none⟩ (.bool false)) := hb.trans (T := fun _ => False) (T' := fun k => k = gm) ((Keeps.refl (fun k => k = gm) w).setCell _ _ (fun _ => rfl)) (fun k hk e => by omega)
 have hgl := hm1.known.lt
 have hpos := (digs_len_pos WB_one (n := N)).2 hN0
 have hwd := words_digs WB_one N
 obtain ⟨b, C, hv, hbb, hCx, hwx, htx, h0x, hlx⟩ := (show ∃ b C, v = .slice (some ⟨b, 0, none⟩) (digs WB N).length C.length ∧ w0.heap.size ≤ b ∧ Blk (w.setCell ⟨gm, 0, none⟩ (.bool false)) b C ∧ Words WB C ∧ C.take (digs WB N).length = digs WB N ∧ 0 < C.length ∧ C.length ≤ 1000000 from by
  rcases hm1.nat with ⟨hv, e⟩ | ⟨b, C, hv, h1, h2, h3, h4, h5, h6⟩
  ·rw [e] at hpos; simp at hpos
  ·exact ⟨b, C, hv, h1, h2, h3, h4, h5, h6⟩)
 have hbg : b ≠ gm := fun e => NatRow.apart hm1.nat hm1.neg (by rw [hv, e]; rfl)
 have hm1r := hm1.row
 clear hE he hm hpos hm1
 generalize hds0 : digs WB N = ds0 at *
 clear hds0
 generalize w.setCell ⟨gm, 0, none⟩ (.bool false) = w1 at *
 subst hv
 obtain ⟨L0, hL0⟩ : ∃ L, ds0.length = L := ⟨_, rfl⟩
 rw [hL0] at htx hm1r hlen0
 have hBt := Lib.hid (intBits_any w1 w0.heap.size gm 0 false _ _ hm1r)
 have hLC : L0 ≤ C.length := by have := congrArg List.length htx; simp at this; omega
 have hL0' := Lib.hid hL0
 have hb' := Lib.hid hb
 have h' := Lib.hid h
 have hcl := Lib.hid (And.intro hgm hxl)
 have htx' := Lib.hid htx
 have hwd' := Lib.hid hwd
 have hW' := Lib.hid hW
 have hF' := Lib.hid hF
 have hm1' := Lib.hid hm1r
 have k1' := Lib.hid k1
 have hyl' := Lib.hid hyl
 have hlen' := Lib.hid hlen
 have hmm := Lib.hid (And.intro hwx (And.intro h0x hlx))
 clear h hb hgm hxl hL0 htx hW hF hm1r k1 hyl hlen hwx h0x hlx hwd
 go_enter Tryz.func232, Tryz.ntmps232
 go_wp2_with fail
 refine hS.out.mono ?_
 rintro e w2 ⟨rfl, hw2⟩
 obtain rfl := hw2.symm
 go_wp2_with fail
 refine hNg.out.mono ?_
 rintro e w2 ⟨rfl, hw2⟩
 obtain rfl := hw2.symm
 clear c1 hNg hS
 go_wp2_with fail
 refine hBt.out.mono ?_
 rintro e w2 ⟨rfl, hw2⟩
 obtain rfl := hw2.symm
 clear hBt
 go_wp2_with fail
 go_loopw [10] (fun i wr => ∃ k : Nat, k ≤ L0 ∧ i = .int .i64 k ∧ Blk wr b ((invW ds0).take k ++ C.drop k) ∧ Keeps (fun k => k = b) w1 wr) (fun i _ => L0 - (intOf i).toNat)
 case atStart => exact ⟨0, Nat.zero_le _, rfl, by simpa using hCx, Keeps.refl _ _⟩
 case round =>
  obtain ⟨k, hk, rfl, hB, hkp⟩ := hrel
  by_cases hlt : k < L0
  ·have t3 : (k : Int) < L0 := by omega
   have t4 : (0 : Int) ≤ k := by omega
   have hL0 := hL0'.out
   have hlc : ((invW ds0).take k ++ C.drop k).length = C.length := by simp [invW]; omega
   have hck := hB.cell k (by omega)
   rw [inv_cell C ds0 L0 k htx'.out hL0 hlt] at hck
   have hfk := frozenOf hB k
   have hst := hB.set k (WB - 1 - ds0[k]'(by omega))
   rw [inv_step C ds0 L0 k htx'.out hL0 hlt] at hst
   have hst := Lib.hid (And.intro hst (hkp.setCell ⟨b, k, none⟩ (.int .u64 ((WB - 1 - ds0[k]'(by omega) : Nat) : Int)) (fun _ => rfl)))
   have eN := notW (hwd'.out.get k (by omega))
   rw [show IntKind.u64.max = (if IntKind.u64.signed = true then -1 else IntKind.u64.max) from rfl] at eN
   generalize hd : ds0[k]'(by omega) = d at *
   generalize hdi : WB - 1 - d = di at *
   replace eN := Lib.hid eN
   clear hB hkp hlc hd hdi hL0
   go_wp2_with fail
   go_roundw
   case rel => exact ⟨k + 1, by omega, by go_num, by rw [eN.out]; exact hst.out.1, by rw [eN.out]; exact hst.out.2⟩
   case measure => simp [intOf]; omega
  ·obtain rfl : k = L0 := by omega
   have hL0 := hL0'.out
   have hil : (invW ds0).length = k := by simp [invW, hL0]
   rw [List.take_of_length_le (by omega)] at hB
   have hm3 : IntRow wr w0.heap.size gm 0 false (.slice (some ⟨b, 0, none⟩) k C.length) (invW ds0) := by
    have hm1 := hm1'.out
    obtain ⟨hwx, h0x, hlx⟩ := hmm.out
    have hcl : (invW ds0 ++ C.drop k).length = C.length := by simp [hil]; omega
    refine ⟨hm1.known.keeps hkp (fun e => hbg e.symm), hkp.cellS hm1.neg (fun e => hbg e.symm), hkp.cellS hm1.abs (fun e => hbg e.symm), .inr ⟨b, invW ds0 ++ C.drop k, by rw [hcl, hil], hbb, hB, ?_, by rw [hil]; simp [hil], by omega, by omega⟩⟩
    intro x hx
    rcases List.mem_append.1 hx with h1 | h1
    ·simp only [invW, List.mem_map] at h1
     obtain ⟨d, -, rfl⟩ := h1
     have := WB_pos
     omega
    ·exact hwx x (List.mem_of_mem_drop h1)
   have k3 : Keeps (fun _ => False) w0 wr := k1'.out.trans hkp (fun k hk e => by omega)
   have hO := Lib.hid (encNatOne_any wr)
   have hm3 := Lib.hid hm3
   have k3 := Lib.hid k3
   clear hB hkp hL0
   go_wp2_with fail
   refine hO.out.mono ?_
   rintro e w4 ⟨go, vo, rfl, hone⟩
   have m4 := hm3.out.kept hone.keep (fun h => h) (fun _ _ h => h)
   have k4 := k3.out.trans hone.keep (fun _ _ h => h)
   have hl3 := k3.out.size
   have hl1 : (digs WB 1).length = 1 := by rw [digs_small WB_one (by omega) WB_one]; rfl
   have hA := Lib.hid (intAdd_raw w4 w0.heap.size wr.heap.size gm 0 go 0 1 (.slice (some ⟨b, 0, none⟩) k C.length) vo (invW ds0) m4 hone.at_ k4.size (by omega) (by omega) (by omega))
   have k4 := Lib.hid k4
   clear hm3 k3 m4 hone hO
   go_wp2_with fail
   refine hA.out.mono ?_
   rintro e w5 ⟨v5, rfl, ho5⟩
   have k5 : Keeps (fun _ => False) w0 w5 := k4.out.trans ho5.keep (fun k hk e => e.elim (fun e => by have := hcl.out.1; omega) (fun e => by simp only [Value.ownBlock, Option.some.injEq] at e; omega))
   have hE := h'.out.keep (k5.below (Nat.le_refl _) (fun _ _ h => h.elim))
   have hW := hW'.out
   have hF := hF'.out
   have hyl := hyl'.out
   have hlen := hlen'.out
   have hrow' := ho5.at_.nat
   unfold NatAt at hrow'
   have hB5 := intBits_any w5 w0.heap.size gm 0 false _ _ ho5.at_.row
   have hb' := Lib.hid k5
   clear hA ho5 k5 hW' hF' hyl' hlen'
   generalize digs WB (val WB (invW ds0) + 1) = ds at *
   obtain ⟨pv, cv, rfl⟩ := NatRow.form hrow'
   replace hB5 := Lib.hid hB5
   clear hil hbb hbg hCx hL0' htx' hmm hwd' hm1' k1' k4 hgl hN0 hl3 hl1 hlt hk hlen0 hLC
   go_wp2_with fail
   refine hB5.out.mono ?_
   rintro e w6 ⟨rfl, hw6⟩
   obtain rfl := hw6.symm
   clear hB5
   have hbb := Lib.hid (show Below base w0 w5 from hb'.out.below (by have := h'.out.lo; have := sizeOf_blk h'.out.enc; omega) (fun _ _ h => h.elim))
   obtain ⟨L, hL⟩ : ∃ L, ds.length = L := ⟨_, rfl⟩
   rw [hL] at hF hrow' ⊢
   have hLb : L ≤ 10000 := by omega
   have hl0 : LaidB w5 w5 base E S W tr xs ys 0 := ⟨hE, Keeps.refl _ _, fun i h h2 => absurd h2 (Nat.not_lt_zero _)⟩
   have hE' := Lib.hid hE
   have hyl' := Lib.hid hyl
   have hL' := Lib.hid hL
   have hW' := Lib.hid hW
   have hF' := Lib.hid hF
   have hrow'' := Lib.hid hrow'
   clear hE hW hF hyl hrow' hL
   go_wp2_with fail
   go_loopw [11, 52] (fun j ix wr => ∃ k q : Nat, k ≤ L ∧ q = min (8 * k) size ∧ j = .int .i64 q ∧ ix = .int .i64 k ∧ LaidB w5 wr base E S W tr xs ys q) (fun _ ix _ => L - (intOf ix).toNat)
   case atStart => exact ⟨0, 0, Nat.zero_le _, by omega, rfl, rfl, hl0⟩
   case round =>
    obtain ⟨k, q, hk, hq, rfl, rfl, hB⟩ := hrel
    have hqH := Lib.hid hq
    have hqz : q ≤ size := by omega
    have hq8 : q = size ∨ q = 8 * k := by omega
    clear hq
    by_cases hlt : k < L
    ·have t0 : (k : Int) < L := by omega
     have hL := hL'.out
     obtain ⟨b, C, hv, hbb, hCx, hwx, htx, h0x, hlx⟩ : ∃ b C, Value.slice pv L cv = .slice (some ⟨b, 0, none⟩) ds.length C.length ∧ w0.heap.size ≤ b ∧ Blk w5 b C ∧ Words WB C ∧ C.take ds.length = ds ∧ 0 < C.length ∧ C.length ≤ 1000000 := by
      rcases hrow''.out with ⟨hv, e⟩ | ⟨b, C, hv, h1, h2, h3, h4, h5, h6⟩
      ·rw [e] at hL; simp at hL; omega
      ·exact ⟨b, C, by rw [hL]; rw [hL] at hv; exact hv, h1, h2, h3, h4, h5, h6⟩
     injection hv with h1 h2 h3
     subst h1 h3
     have hbS : b ≠ S := by omega
     have hvx := hCx.row (xs := ds) htx (by rw [← htx]; simp; omega)
     have hck := hB.keep.cellS (hvx k (by omega)) (fun e => hbS e)
     rw [Nat.zero_add] at hck
     have wd := (show Words WB ds from htx ▸ hwx.take _).get k (by omega)
     have hW := fun i (hi : i < 8) (h2 : 8 * k + i < ys.length) => hW'.out k (by omega) i hi h2
     obtain ⟨d, hd⟩ : ∃ d, ∀ h : k < ds.length, ds[k] = d := ⟨ds[k]'(by omega), fun _ => rfl⟩
     simp only [hd] at hW
     rw [hd] at hck wd
     have hW'' := Lib.hid hW
     clear hL hW hvx hCx hwx htx h0x hlx h2
     go_wp2_with fail
     obtain ⟨wo, hwo⟩ : ∃ x, x = wr := ⟨_, rfl⟩
     subst hwo
     go_loopw [11, 13, 14] (fun j dd i wx => ∃ m q' : Nat, m ≤ 8 ∧ q' = min (8 * k + m) size ∧ j = .int .i64 q' ∧ dd = .int .u64 (d / 256 ^ m : Nat) ∧ i = .int .i64 m ∧ LaidB w5 wx base E S W tr xs ys q') (fun _ _ i _ => 8 - (intOf i).toNat)
     case atStart => exact ⟨0, q, by omega, by have := hqH.out; omega, rfl, by rw [Nat.pow_zero, Nat.div_one], rfl, hB⟩
     case round =>
      obtain ⟨m, q', hm, hq', rfl, rfl, rfl, hB'⟩ := hrel
      by_cases hm8 : m < 8
      ·have t1 : (m : Int) < 8 := by omega
       by_cases hqs : q' < size
       ·have t2 : (q' : Int) < size := by omega
        have t3 : (0 : Int) ≤ q' := by omega
        obtain ⟨dm, hdm⟩ : ∃ x, d / 256 ^ m = x := ⟨_, rfl⟩
        obtain ⟨⟨u, hu⟩, hfz⟩ := hB'.enc.cell q' (by omega)
        have hst := hB'.step ((dm % 256 : Nat) : Int) (by omega) (fun h => by
         have := hW''.out m hm8 (by omega)
         rw [hdm] at this
         rw [← this]
         congr 1
         omega)
        have hst := Lib.hid hst
        have hdl : dm < WB := by rw [← hdm]; exact Nat.lt_of_le_of_lt (Nat.div_le_self _ _) wd
        have e2 : IntKind.u8.wrap (dm : Int) = ((dm % 256 : Nat) : Int) := by simp [IntKind.wrap, IntKind.bits, IntKind.signed]
        have e3 : (dm : Int) / 256 = ((dm / 256 : Nat) : Int) := by simp
        have e4 : dm / 256 = d / 256 ^ (m + 1) := by rw [← hdm, Nat.div_div_eq_div_mul, Nat.pow_succ]
        rw [hdm]
        generalize hlo : dm % 256 = lo at *
        generalize hdq : dm / 256 = dq at *
        have hq1 := Lib.hid (show q' + 1 = min (8 * k + (m + 1)) size by omega)
        replace e4 := Lib.hid e4
        clear hB' hdm hdl hB hq'
        go_wp2_with fail
        go_roundw
        case rel => exact ⟨m + 1, q' + 1, by omega, hq1.out, by go_num, by rw [← e4.out], by go_num, hst.out⟩
        case measure => simp [intOf]; omega
       ·have t2 : ¬ (q' : Int) < size := by omega
        have hqe := Lib.hid (show q' = min (8 * (k + 1)) size by omega)
        clear hq'
        clear hB
        go_wp2_with fail
        go_roundw
        case rel => exact ⟨k + 1, q', by omega, hqe.out, rfl, by go_num, hB'⟩
        case measure => simp [intOf]; omega
      ·obtain rfl : m = 8 := by omega
       have hqe := Lib.hid (show q' = min (8 * (k + 1)) size by omega)
       clear hB hq'
       go_wp2_with fail
       go_roundw
       case rel => exact ⟨k + 1, q', by omega, hqe.out, rfl, by go_num, hB'⟩
       case measure => simp [intOf]; omega
    ·obtain rfl : k = L := by omega
     have hF := hF'.out
     have hyl := hyl'.out
     go_wp2_with fail
     clear hyl
     go_loopw [15] (fun i wx => ∃ p : Nat, q ≤ p ∧ p ≤ size ∧ i = .int .i64 p ∧ LaidB w5 wx base E S W tr xs ys p) (fun i _ => size - (intOf i).toNat)
     case atStart => exact ⟨q, Nat.le_refl _, hqz, rfl, hB⟩
     case round =>
      obtain ⟨p, hqp, hp, rfl, hB'⟩ := hrel
      by_cases hps : p < size
      ·have t2 : (p : Int) < size := by omega
       have t3 : (0 : Int) ≤ p := by omega
       obtain ⟨⟨u, hu⟩, hfz⟩ := hB'.enc.cell p (by omega)
       have hst := Lib.hid (hB'.step 255 (by omega) (fun h => hF p h (by omega)))
       clear hB' hB hF
       go_wp2_with fail
       go_roundw
       case rel => exact ⟨p + 1, by omega, by omega, by go_num, hst.out⟩
       case measure => simp [intOf]; omega
      ·obtain rfl : p = size := by omega
       have t2 : ¬ (p : Int) < p := by omega
       have hyl := hyl'.out
       have hwr := hB'.enc.enc
       have c0 := show wr.cell? ⟨E, 0, none⟩ = some (.pointer (some ⟨W, 0, none⟩)) by rw [cellOf hwr]; rfl
       have hWr := encWrite _ base E S W tr xs ys hB'.enc S 0 p 4096 hyl (fun j h => by rw [Nat.zero_add]; exact hB'.cells j h (by omega)) (by have := hcl.out.2; omega)
       have hWr := Lib.hid hWr
       have hlo := h'.out.lo
       have hbs := sizeOf_blk h'.out.enc
       have hkk := Lib.hid (show Below base w0 wr from hbb.out.trans (hB'.keep.below (by have := hbb.out.size; omega) (fun k hk e => by omega)))
       clear hlo hbs
       clear hB hB' hwr hF hyl
       go_wp2_with fail
       refine hWr.out.mono ?_
       rintro e w9 ⟨rfl, he9, hb9⟩
       have hfin := Lib.hid (And.intro he9 (hkk.out.trans hb9))
       clear he9 hb9
       go_wp2_with fail
       go_end0
       exact ⟨rfl, hfin.out⟩
end Go.Proofs.YthocmhkafgpgbaaGreatDoor
