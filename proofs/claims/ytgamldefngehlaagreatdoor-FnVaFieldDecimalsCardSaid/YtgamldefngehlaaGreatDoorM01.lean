/- Parts of the walk. -/
import Derived.Test.YtgamldefngehlaaGreatDoorM02
import Derived.Test.YtgamldefngehlaaGreatDoorProg
import Derived.Test.YtgamldefngehlaaGreatDoorCards
import Derived.Test.YtgamldefngehlaaGreatDoorTie
import Derived.WalkKit
import Derived.WalkLawsBesides
import Derived.WalkSpells
import Derived.BigQuiet
import Derived.Deep.QuietTactic
import Derived.Deep.DeepFit
import Derived.Deep.DeepMust
import Derived.Deep.LoopGhost
import Derived.Deep.OwnRows
import Derived.Deep.AppendSrc
import Derived.Laws.CopyOwn
import Derived.Laws.Rows
import Derived.Laws.OwnMore
import Derived.Lib.Hide
import Derived.Maps.AppendAt
import Derived.ProofKit
import Derived.OpenShut
import Derived.Deep.DeepHandedRow
import Derived.WalkSmall
import Derived.Lay
import Derived.Shelf.Bits.Mul64
import Derived.Shelf.Small.Bits
import Derived.Shelf.Spec.BitsCarry
import Derived.Laws.Externs
import Derived.LaidEql
import Derived.Lib.EndianBits
import Derived.Stop.LaidErr
import Derived.RowKit3
import Derived.RegionTactic
import Derived.Deep.Draws
import Derived.Laws.IdiomCopy
import Derived.Lib.EndianMore
set_option linter.unusedVariables false
set_option linter.unusedSimpArgs false
namespace Go.Proofs.YtgamldefngehlaaGreatDoor
open Go.RowKit
abbrev u8s (xs : List Int) : List Value := xs.map (Value.int .u8)
theorem cellOf {w : World} {b : Nat} {C : Array Value} {t : TypeId} {fr : Nat × Nat} (h : w.heap[b]? = some (.cells C t fr)) (i : Nat) : w.cell? ⟨b, i, none⟩ = C[i]? := by
 simp [World.cell?, h]
theorem frozenOf {w : World} {b : Nat} {C : Array Value} {t : TypeId} (h : w.heap[b]? = some (.cells C t (0, 0))) (i : Nat) : w.frozen? ⟨b, i, none⟩ = false := by
 simp [World.frozen?, h]
theorem sizeOf_blk {w : World} {b : Nat} {o : Obj} (h : w.heap[b]? = some o) : b < w.heap.size := (Array.getElem?_eq_some_iff.1 h).1
theorem blk_setCell {w : World} {b : Nat} {C : Array Value} {t : TypeId} {fr : Nat × Nat} (h : w.heap[b]? = some (.cells C t fr)) (i : Nat) (v : Value) :
  (w.setCell ⟨b, i, none⟩ v).heap[b]? = some (.cells (C.setIfInBounds i v) t fr) := by
 simp [World.setCell, Array.getElem?_modify, h]
theorem blk_setCell_ne {w : World} {b : Nat} {a : Addr} (h : b ≠ a.block) (v : Value) : (w.setCell a v).heap[b]? = w.heap[b]? := by
 simp only [World.setCell, Array.getElem?_modify]
 rw [if_neg (fun e => h e.symm)]
theorem blk_alloc {w : World} {b : Nat} {o : Obj} (h : w.heap[b]? = some o) (o' : Obj) : (w.alloc o').heap[b]? = some o := by
 rw [Below.heap_alloc _ _ _ (sizeOf_blk h)]; exact h
theorem blk_new (w : World) (o : Obj) : (w.alloc o).heap[w.heap.size]? = some o := by
 show (w.heap.push o)[w.heap.size]? = _
 simp
theorem blk_new' (w : World) (o : Obj) (n : Nat) (h : w.heap.size = n) : (w.alloc o).heap[n]? = some o := by subst h; exact blk_new w o
structure Keeps (T : Nat → Prop) (w w' : World) : Prop where
 os : w'.os = w.os
 tape : w'.tape = w.tape
 output : w'.output = w.output
 size : w.heap.size ≤ w'.heap.size
 blk : ∀ k, k < w.heap.size → ¬ T k → w'.heap[k]? = w.heap[k]?
namespace Keeps
variable {T T' : Nat → Prop} {w w' w'' : World}
theorem refl (T : Nat → Prop) (w : World) : Keeps T w w := ⟨rfl, rfl, rfl, Nat.le_refl _, fun _ _ _ => rfl⟩
theorem trans (h : Keeps T w w') (h' : Keeps T' w' w'') (hs : ∀ k, k < w.heap.size → T' k → T k) : Keeps T w w'' :=
 ⟨h'.os.trans h.os, h'.tape.trans h.tape, h'.output.trans h.output, Nat.le_trans h.size h'.size, fun k hk hT => (h'.blk k (Nat.lt_of_lt_of_le hk h.size) (fun x => hT (hs k hk x))).trans (h.blk k hk hT)⟩
theorem mono (h : Keeps T w w') (hs : ∀ k, k < w.heap.size → T k → T' k) : Keeps T' w w' := ⟨h.os, h.tape, h.output, h.size, fun k hk hT => h.blk k hk (fun x => hT (hs k hk x))⟩
theorem alloc (h : Keeps T w w') (o : Obj) : Keeps T w (w'.alloc o) :=
 ⟨h.os, h.tape, h.output, by have := h.size; simp; omega, fun k hk hT => (Below.heap_alloc _ _ _ (Nat.lt_of_lt_of_le hk h.size)).trans (h.blk k hk hT)⟩
theorem drew (h : Keeps T w w') : Keeps T w w'.drew := ⟨h.os, h.tape, h.output, h.size, h.blk⟩
theorem drewN (h : Keeps T w w') (n : Nat) : Keeps T w (w'.drewN n) := ⟨h.os, h.tape, h.output, h.size, h.blk⟩
theorem setCell (h : Keeps T w w') (a : Addr) (v : Value) (ha : a.block < w.heap.size → T a.block) : Keeps T w (w'.setCell a v) :=
 ⟨h.os, h.tape, h.output, by have := h.size; simpa using this, fun k hk hT => (Below.heap_setCell _ _ _ _ (fun e => hT (by subst e; exact ha hk))).trans (h.blk k hk hT)⟩
theorem grown (h : Keeps T w w') {row : Option Nat} (hg : w'.grownBy w'' row) (hr : ∀ k, k < w.heap.size → row = some k → T k) : Keeps T w w'' :=
 ⟨hg.os.trans h.os, hg.tape.trans h.tape, hg.output.trans h.output, Nat.le_trans h.size hg.size, fun k hk hT => (hg.block k (Nat.lt_of_lt_of_le hk h.size) (fun e => hT (hr k hk e.symm))).trans (h.blk k hk hT)⟩
theorem below {B : Nat} (h : Keeps T w w') (hB : B ≤ w.heap.size) (hT : ∀ k, k < B → ¬ T k) : Below B w w' := ⟨h.os, h.tape, h.output, h.size, fun k hk => h.blk k (by omega) (hT k hk)⟩
theorem at_ (h : Keeps T w w') {k : Nat} {o : Obj} (hk : w.heap[k]? = some o) (hT : ¬ T k) : w'.heap[k]? = some o := (h.blk k (sizeOf_blk hk) hT).trans hk
theorem cell (h : Keeps T w w') {a : Addr} (ha : a.block < w.heap.size) (hT : ¬ T a.block) : w'.cell? a = w.cell? a := World.cell?_of_block (h.blk _ ha hT)
theorem cellS (h : Keeps T w w') {a : Addr} {v : Value} (hc : w.cell? a = some v) (hT : ¬ T a.block) : w'.cell? a = some v := (h.cell (World.block_lt_of_cell? _ _ hc) hT).trans hc
theorem ownsRow (h : Keeps T w w') {base : Nat} {e : TypeId} {size : Nat} {v : Value} {n : Nat} {xs : List Value} (ho : w.ownsRow base e size v n xs) (hT : ∀ k, v.ownBlock = some k → ¬ T k) : w'.ownsRow base e size v n xs := by
 obtain ⟨h1, h2⟩ := ho
 refine ⟨h1, ?_⟩
 rcases h2 with h2 | ⟨g, cap, cur, hv, hg, hh, r⟩
 ·exact .inl h2
 ·exact .inr ⟨g, cap, cur, hv, hg, h.at_ hh (hT g (by simp [hv, Value.ownBlock])), r⟩
end Keeps
theorem ownsRow_slice {w : World} {base n : Nat} {e : TypeId} {size : Nat} {v : Value} {xs : List Value} (h : w.ownsRow base e size v n xs) : ∃ A c, v = .slice A n c := by
 rcases h.2 with ⟨rfl, rfl⟩ | ⟨g, cap, cur, rfl, _⟩
 ·exact ⟨none, 0, rfl⟩
 ·exact ⟨_, cap, rfl⟩
theorem ownBlock_ne {w : World} {base n : Nat} {e : TypeId} {size : Nat} {v : Value} {xs : List Value} (h : w.ownsRow base e size v n xs) {b : Nat} {C : Array Value} {t : TypeId} {fr : Nat × Nat}
  (hb : w.heap[b]? = some (.cells C t fr)) (ht : t ≠ e) : some b ≠ v.ownBlock := by
 rcases h.2 with ⟨rfl, rfl⟩ | ⟨g, cap, cur, rfl, _, hh, _⟩
 ·simp [Value.ownBlock]
 ·intro hk
  have : b = g := by simpa [Value.ownBlock] using hk
  subst this
  rw [hh] at hb
  injection hb with hb
  injection hb with _ h2
  exact ht h2.symm
end Go.Proofs.YtgamldefngehlaaGreatDoor
namespace Go.Proofs.YtgamldefngehlaaGreatDoor
open Go.ChangeShapes Go.WideShapes Go.ChangeAt Go.RowKit
theorem own : ownKnob Tryz.prog.godebug = none := by kernel_rfl
section
variable {H : Type} {enc : TypeId × Value → H} {P : Program}
theorem intVars {ti : TypeId} (hti : P.underlying ti = some (.int .i64)) {W W' : World} (hb : Below W.heap.size W W') : ∀ {ns : List String} {gs : List (DataW H)} {ps : List MemPlace} {sp : Nat → Bool},
  (∀ n ∈ ns, ∃ g, P.globalNamed n = some g ∧ (P.globals[g]?).map (·.type) = some ti) → DataW.TrodVars enc P W sp ns gs ps → ∀ sp' : Nat → Bool, DataW.TrodVars enc P W' sp' ns gs ps
 | [], [], _, _, _, h, _ => h
 | [], _ :: _, _, _, _, h, _ => by simp [DataW.TrodVars] at h
 | _ :: _, [], _, _, _, h, _ => by simp [DataW.TrodVars] at h
 | n :: ns, d :: gs, ps, sp, hn, h, sp' => by
  obtain ⟨g, t, cs, fuel, p, q, h1, h2, h3, h4, h5, h6⟩ := h
  obtain ⟨g', e1, e2⟩ := hn n (by simp)
  obtain rfl : g' = g := Option.some.inj (e1.symm.trans h1)
  obtain rfl : ti = t := Option.some.inj (e2.symm.trans h2)
  obtain ⟨z, hc, hx, hw⟩ := DataW.trod_int hti h4
  injection hx with hx1 hx2
  subst hx1 hx2
  have hlt : g' < W.heap.size := by
   unfold World.var? at h3
   simp only [h1, Option.bind_some] at h3
   cases hg : W.heap[g']? with
   | none => simp [hg] at h3
   | some o => exact (Array.getElem?_eq_some_iff.1 hg).1
  refine ⟨g', ti, cs, 1, [], q, h1, h2, var?_below hb h1 hlt h3, by rw [hc]; exact trod_int_mk 0 hti hw, intVars hti hb (fun m hm => hn m (by simp [hm])) h5 sp', h6⟩
theorem post_of_below {f : Func} {s : ChangeSpec} {apart fresh handsOn again : Bool} {W W' : World} {args : Array Value} {v : Value} {ds gs : List (DataW H)} {before pa pv : List MemPlace}
  (hW : DataW.Whole enc P f.params.toList s.vars apart W args.toList ds gs before)
  (hres : ∀ (b : Nat) (sp : Nat → Bool) (hd : Bool), DataW.TrodAll enc P W' b sp hd f.resultTypes.toList (v.resultList f.resultTypes.size) (s.fn H (ds ++ gs)).results [])
  (hargs : ∀ sp : Nat → Bool, (∀ p ∈ before, sp p.block = true) → DataW.TrodAll enc P W' 0 sp true f.params.toList args.toList (s.fn H (ds ++ gs)).args pa)
  (hvars : ∀ sp : Nat → Bool, (∀ p ∈ before, sp p.block = true) → DataW.TrodVars enc P W' sp s.vars (s.fn H (ds ++ gs)).vars pv)
  (hps : before = pa ++ pv) (hb : Below W.heap.size W W')
  (hok : ∀ (j : Nat) (t : TypeId) (r : Value), f.resultTypes[j]? = some t → (v.resultList f.resultTypes.size)[j]? = some r → Value.okWide P W' .any 0 t r) :
  s.post enc P f apart fresh handsOn again W args v W' := by
 have hold : ∀ p ∈ before, (fun b => decide (b < W.heap.size)) p.block = true := fun p hp => by simpa using hW.lt p hp
 have hlt := hW.lt
 refine ⟨ds, gs, before, [], pa, pv, hW, hres _ _ _, hargs _ hold, hvars _ hold, World.keptBut_mono (fun p hp => ⟨hp, ?_⟩) (hb.frame (· ∈ before)), fun _ => ?_⟩
 ·rw [hps, List.mem_append] at hp
  exact Or.inr hp
 ·obtain ⟨_, _, _, _, _, hz, hn⟩ := hW
  refine ⟨hok, _, _, ([] ++ pa) ++ pv, ⟨[] ++ pa, pv, trodAll_append (hargs _ (fun _ _ => rfl)) (hres _ _ _), hvars _ (fun _ _ => rfl), rfl, ?_, ?_⟩, ?_⟩
  ·intro b off hp
   have hp' : MemPlace.cell b off ∈ before := by rw [hps]; simpa using hp
   rw [hb.frozen (p := ⟨b, off, none⟩) (hlt _ hp')]
   exact hz b off hp'
  ·intro ha
   have := hn ha
   rw [hps] at this
   simpa using this
  ·intro p hp _
   rw [hps]
   simpa using hp
end
theorem intGlobals : ∀ n ∈ ["given.example/pub-anacrusis/pub/bigall.divRecursiveThreshold", "given.example/pub-anacrusis/pub/bigall.karatsubaThreshold", "given.example/pub-anacrusis/pub/bigall.basicSqrThreshold", "given.example/pub-anacrusis/pub/bigall.karatsubaSqrThreshold"],
  ∃ g, Tryz.prog.globalNamed n = some g ∧ (Tryz.prog.globals[g]?).map (·.type) = some 3 := by
 intro n hn
 simp only [List.mem_cons, List.mem_nil_iff, or_false] at hn
 rcases hn with rfl | rfl | rfl | rfl
 ·exact ⟨2, by kernel_rfl, by kernel_rfl⟩
 ·exact ⟨7, by kernel_rfl, by kernel_rfl⟩
 ·exact ⟨5, by kernel_rfl, by kernel_rfl⟩
 ·exact ⟨6, by kernel_rfl, by kernel_rfl⟩
end Go.Proofs.YtgamldefngehlaaGreatDoor
namespace Go.Proofs.YtgamldefngehlaaGreatDoor
open Go.RowKit
open Go
def Spliced (g : Nat) (t : TypeId) (cur : List Value) (off : Nat) (cs : List Value) (w w' : World) : Prop :=
 w'.heap[g]? = some (.cells (splice cur off cs).toArray t (0, 0)) ∧ Keeps (fun k => k = g) w w'
theorem splice_nil {α : Type} (L : List α) (off : Nat) : splice L off [] = L := by simp [splice]
theorem spliced_none {g : Nat} {t : TypeId} {cur : List Value} {off : Nat} {w : World} (hg : w.heap[g]? = some (.cells cur.toArray t (0, 0))) : Spliced g t cur off [] w w :=
 ⟨by rw [splice_nil]; exact hg, Keeps.refl _ _⟩
theorem spliced_row {g : Nat} {t : TypeId} {cur : List Value} {off : Nat} {cs : List Value} {w : World} (hg : w.heap[g]? = some (.cells cur.toArray t (0, 0))) :
  Spliced g t cur off cs w (w.setRow g (cur.toArray.toList.take off ++ (cs ++ cur.toArray.toList.drop (off + cs.length))).toArray) :=
 ⟨setRow_heap w g _ _ t _ hg, ⟨rfl, rfl, rfl, by simp [World.setRow], fun k _ hk => setRow_other w g k _ hk⟩⟩
structure CopyFits (w : World) (dp sp : Option Addr) (sLen dLen g off : Nat) (cur cs : List Value) (m : Nat) : Prop where
 len : cs.length = m
 num : m = Nat.min sLen dLen
 pos : 0 < m → dp = some ⟨g, off, none⟩ ∧ ∃ ad, sp = some ad ∧ ∀ j v, cs[j]? = some v → w.cell? (ad.add j) = some v
 fit : off + m ≤ cur.length
 one : ∀ v ∈ cs, v.oneCell' = true
theorem wpList_copy_kept {P : Program} {w : World} {ops : Array Oper} {rest : List Oper} {o : Oper} {a : Act} {Q : Exit → Act → World → Prop} (hgd : o.guard = none) (d s : Operand) (dT sT : TypeId)
  (ho : o.op = .call { callee := .builtin .copy, args := #[d, s], argTypes := #[dT, sT] }) (elem : TypeId) (hu : P.underlying dT = some (.slice elem)) (hsz : (P.info? elem).map (·.size) = some 1)
  (dp sp : Option Addr) (dLen dCap sLen sCap : Nat) (hd : a.eval d = .slice dp dLen dCap) (hs : a.eval s = .slice sp sLen sCap)
  (g off : Nat) (cur : List Value) (t : TypeId) (hg : w.heap[g]? = some (.cells cur.toArray t (0, 0))) (cs : List Value) (m : Nat) (hf : CopyFits w dp sp sLen dLen g off cur cs m)
  (h : ∀ w', Spliced g t cur off cs w w' → wpList P ops Q rest (a.put o.dst (goInt m)) w') :
  wpList P ops Q (o :: rest) a w := by
 obtain ⟨rfl, hn, hpos, hfit, h1⟩ := hf
 by_cases h0 : cs.length = 0
 ·obtain rfl : cs = [] := List.eq_nil_of_length_eq_zero h0
  refine wpList_copy_nothing hgd d s dT sT ho elem hu hsz dp sp dLen dCap sLen sCap hd hs (by simpa using hn.symm) ?_
  exact h w (spliced_none hg)
 ·obtain ⟨rfl, ad, rfl, hsrc⟩ := hpos (by omega)
  refine wpList_copy_own hgd d s dT sT ho elem hu hsz g off dLen dCap ad sLen sCap hd hs cur.toArray t hg cs hn hsrc (by simpa using hfit) h1 ?_
  exact h _ (spliced_row hg)
theorem step_copy_kept {P : Program} {ops : Array Oper} {o : Oper} {a : Act} {w : World} {K : Act → World → Prop} {Q : Exit → Act → World → Prop} {E : Prop} (hgd : o.guard = none) (d s : Operand) (dT sT : TypeId)
  (ho : o.op = .call { callee := .builtin .copy, args := #[d, s], argTypes := #[dT, sT] }) (elem : TypeId) (hu : P.underlying dT = some (.slice elem)) (hsz : (P.info? elem).map (·.size) = some 1)
  (dp sp : Option Addr) (dLen dCap sLen sCap : Nat) (hd : a.eval d = .slice dp dLen dCap) (hs : a.eval s = .slice sp sLen sCap)
  (g off : Nat) (cur : List Value) (t : TypeId) (hg : w.heap[g]? = some (.cells cur.toArray t (0, 0))) (cs : List Value) (m : Nat) (hf : CopyFits w dp sp sLen dLen g off cur cs m)
  (h : ∀ w', Spliced g t cur off cs w w' → K (a.put o.dst (goInt m)) w') :
  if Region.wanted o (yielded ops a.tmps) = true then Oper.wp P o a w K Q else E := by
 have hw : Region.wanted o (yielded ops a.tmps) = true := by simp [Region.wanted, hgd]
 rw [if_pos hw]
 obtain ⟨rfl, hn, hpos, hfit, h1⟩ := hf
 by_cases h0 : cs.length = 0
 ·obtain rfl : cs = [] := List.eq_nil_of_length_eq_zero h0
  have hrun := run_copy_none (P := P) w dT sT o.type elem dp sp dLen dCap sLen sCap hu hsz (by simpa using hn.symm)
  unfold Oper.wp
  simp [execOp, ho, resolve, invoke, builtin, hd, hs, hrun, Result.andThen]
  exact h w (spliced_none hg)
 ·obtain ⟨rfl, ad, rfl, hsrc⟩ := hpos (by omega)
  have hrun := run_copy_row (P := P) w dT sT o.type elem g off dLen dCap ad sLen sCap cur.toArray t cs hu hsz hg hn hsrc (by simpa using hfit) h1
  unfold Oper.wp
  simp [execOp, ho, resolve, invoke, builtin, hd, hs, hrun, Result.andThen]
  have h2 := h _ (spliced_row hg)
  simp only [List.toList_toArray] at h2
  exact h2
end Go.Proofs.YtgamldefngehlaaGreatDoor
namespace Go.Proofs.YtgamldefngehlaaGreatDoor
open Go.RowKit
abbrev u64s (xs : List Nat) : List Value := xs.map (fun x : Nat => Value.int .u64 (x : Int))
theorem Tryz.infoW : (Tryz.prog.info? 225).map (fun i => (i.zero, i.size, i.bytes)) = some (some (.int .u64 0), 1, 8) := by kernel_rfl
theorem Tryz.infoWsize : (Tryz.prog.info? 225).map (·.size) = some 1 := by kernel_rfl
def Blk (w : World) (g : Nat) (C : List Nat) : Prop := w.heap[g]? = some (.cells (u64s C).toArray 225 (0, 0))
theorem Blk.lt {w : World} {g : Nat} {C : List Nat} (h : Blk w g C) : g < w.heap.size := sizeOf_blk h
theorem Blk.cell {w : World} {g : Nat} {C : List Nat} (h : Blk w g C) (j : Nat) (hj : j < C.length) : w.cell? ⟨g, j, none⟩ = some (.int .u64 (C[j] : Int)) := by
 rw [cellOf h]; simp [u64s, List.getElem?_eq_getElem hj]
theorem Blk.frozen {w : World} {g : Nat} {C : List Nat} (h : Blk w g C) (j : Nat) : w.frozen? ⟨g, j, none⟩ = false := frozenOf h j
theorem Blk.set {w : World} {g : Nat} {C : List Nat} (h : Blk w g C) (j d : Nat) : Blk (w.setCell ⟨g, j, none⟩ (.int .u64 (d : Int))) g (C.set j d) := by
 have := blk_setCell h j (.int .u64 (d : Int))
 unfold Blk
 rw [this]
 congr 2
 simp [u64s, List.map_set]
theorem Blk.kept {w w' : World} {T : Nat → Prop} {g : Nat} {C : List Nat} (h : Blk w g C) (hk : Keeps T w w') (hT : ¬ T g) : Blk w' g C := hk.at_ h hT
theorem Blk.below {w w' : World} {B g : Nat} {C : List Nat} (h : Blk w g C) (hb : Below B w w') (hg : g < B) : Blk w' g C := (hb.block g hg).trans h
theorem Blk.alloc {w : World} {g : Nat} {C : List Nat} (h : Blk w g C) (o : Obj) : Blk (w.alloc o) g C := blk_alloc h o
theorem Blk.inj {w : World} {g : Nat} {C D : List Nat} (h : Blk w g C) (h' : Blk w g D) : C = D := by
 unfold Blk at h h'
 rw [h] at h'
 simp only [Option.some.injEq, Obj.cells.injEq, and_true] at h'
 have e : u64s C = u64s D := by simpa using h'
 exact (List.map_inj_right (fun a b h => Int.ofNat_inj.1 (by simpa using h))).1 e
def Vec (w : World) (b o : Nat) (xs : List Nat) : Prop := ∀ j (h : j < xs.length), w.cell? ⟨b, o + j, none⟩ = some (.int .u64 (xs[j] : Int))
theorem Vec.kept {w w' : World} {T : Nat → Prop} {b o : Nat} {xs : List Nat} (h : Vec w b o xs) (hk : Keeps T w w') (hT : ¬ T b) : Vec w' b o xs := fun j hj => hk.cellS (h j hj) hT
theorem Vec.below {w w' : World} {B b o : Nat} {xs : List Nat} (h : Vec w b o xs) (hk : Below B w w') (hT : b < B) : Vec w' b o xs := fun j hj => (hk.cell (p := ⟨b, o + j, none⟩) hT).trans (h j hj)
theorem Blk.vec {w : World} {g : Nat} {C : List Nat} (h : Blk w g C) (o n : Nat) (hn : o + n ≤ C.length) : Vec w g o ((C.drop o).take n) := fun j hj => by
 simp only [List.length_take, List.length_drop] at hj
 rw [h.cell (o + j) (by omega)]
 simp
theorem Vec.take {w : World} {b o : Nat} {xs : List Nat} (h : Vec w b o xs) (k : Nat) : Vec w b o (xs.take k) := fun j hj => by
 simp only [List.length_take] at hj
 rw [h j (by omega)]; simp
theorem Vec.drop {w : World} {b o : Nat} {xs : List Nat} (h : Vec w b o xs) (k : Nat) : Vec w b (o + k) (xs.drop k) := fun j hj => by
 simp only [List.length_drop] at hj
 rw [show o + k + j = o + (k + j) by omega, h (k + j) (by omega)]; simp
structure VecOut (w w' : World) (bz oz : Nat) (C zs : List Nat) (n : Nat) : Prop where
 len : zs.length = n
 words : Words WB zs
 blk : Blk w' bz (over C oz zs)
 keep : Keeps (fun k => k = bz) w w'
theorem VecOut.start {w : World} {bz oz : Nat} {C : List Nat} (h : Blk w bz C) : VecOut w w bz oz C [] 0 := ⟨rfl, .nil, by rw [over_nil]; exact h, Keeps.refl _ _⟩
theorem VecOut.snoc {w w' : World} {bz oz n : Nat} {C zs : List Nat} (h : VecOut w w' bz oz C zs n) (d : Nat) (hd : d < WB) (hl : oz + n < C.length) :
  VecOut w (w'.setCell ⟨bz, oz + n, none⟩ (.int .u64 (d : Int))) bz oz C (zs ++ [d]) (n + 1) := by
 obtain ⟨rfl, h2, h3, h4⟩ := h
 refine ⟨by simp, h2.snoc hd, ?_, h4.setCell _ _ (fun _ => rfl)⟩
 rw [← over_snoc _ _ _ _ hl]
 exact h3.set _ _
theorem VecOut.read {w w' : World} {bz oz n : Nat} {C zs : List Nat} (h : VecOut w w' bz oz C zs n) (hz : Blk w bz C) {bx ox : Nat} {xs : List Nat} (hx : Vec w bx ox xs) (ha : bx ≠ bz ∨ ox = oz) (hl : oz + n ≤ C.length)
  (j : Nat) (hj : j < xs.length) (hnj : n ≤ j) : w'.cell? ⟨bx, ox + j, none⟩ = some (.int .u64 (xs[j] : Int)) := by
 by_cases e : bx = bz
 ·subst e
  obtain rfl := ha.resolve_left (fun h => h rfl)
  have h1 := hx j hj
  obtain ⟨rfl, _, h3, _⟩ := h
  rw [cellOf hz] at h1
  rw [cellOf h3]
  have h2 : (over C ox zs)[ox + j]? = C[ox + j]? := over_get_ge _ _ _ _ (by omega) hl
  simpa [u64s, h2] using h1
 ·exact (h.keep).cellS (hx j hj) e
theorem VecOut.room {w w' : World} {bz oz n : Nat} {C zs : List Nat} (h : VecOut w w' bz oz C zs n) (j : Nat) : w'.frozen? ⟨bz, j, none⟩ = false := h.blk.frozen j
theorem VecOut.there {w w' : World} {bz oz n : Nat} {C zs : List Nat} (h : VecOut w w' bz oz C zs n) (hl : oz + n < C.length) : ∃ u, w'.cell? ⟨bz, oz + n, none⟩ = some u := by
 have : oz + n < (over C oz zs).length := by rw [over_length _ _ _ (by rw [h.len]; omega)]; exact hl
 exact ⟨_, h.blk.cell _ this⟩
def NatRow (w : World) (base : Nat) (v : Value) (xs : List Nat) : Prop :=
 (v = .slice none 0 0 ∧ xs = []) ∨
 ∃ g C, v = .slice (some ⟨g, 0, none⟩) xs.length C.length ∧ base ≤ g ∧ Blk w g C ∧ Words WB C ∧ C.take xs.length = xs ∧ 0 < C.length ∧ C.length ≤ 1000000
def NatAt (w : World) (base : Nat) (v : Value) (n : Nat) : Prop := NatRow w base v (digs WB n)
theorem NatRow.nil (w : World) (base : Nat) : NatRow w base (.slice none 0 0) [] := .inl ⟨rfl, rfl⟩
theorem NatRow.words {w : World} {base : Nat} {v : Value} {xs : List Nat} (h : NatRow w base v xs) : Words WB xs := by
 rcases h with ⟨_, rfl⟩ | ⟨g, C, _, _, _, hw, ht, _⟩
 ·exact .nil
 ·rw [← ht]; exact hw.take _
theorem NatRow.lt {w : World} {base : Nat} {v : Value} {xs : List Nat} (h : NatRow w base v xs) : ∀ k, v.ownBlock = some k → base ≤ k ∧ k < w.heap.size := by
 intro k hk
 rcases h with ⟨rfl, _⟩ | ⟨g, C, rfl, hb, hC, _⟩
 ·simp [Value.ownBlock] at hk
 ·simp only [Value.ownBlock, Option.some.injEq] at hk
  subst hk
  exact ⟨hb, hC.lt⟩
theorem NatRow.kept {w w' : World} {T : Nat → Prop} {base : Nat} {v : Value} {xs : List Nat} (h : NatRow w base v xs) (hk : Keeps T w w') (hT : ∀ k, v.ownBlock = some k → ¬ T k) : NatRow w' base v xs := by
 rcases h with h | ⟨g, C, rfl, hb, hC, r⟩
 ·exact .inl h
 ·exact .inr ⟨g, C, rfl, hb, hC.kept hk (hT g rfl), r⟩
theorem NatRow.lower {w : World} {base base' : Nat} {v : Value} {xs : List Nat} (h : NatRow w base v xs) (hb : base' ≤ base) : NatRow w base' v xs :=
 h.imp id fun ⟨g, C, hv, hg, r⟩ => ⟨g, C, hv, Nat.le_trans hb hg, r⟩
end Go.Proofs.YtgamldefngehlaaGreatDoor
namespace Go.Proofs.YtgamldefngehlaaGreatDoor
open Go.RowKit
def bitsRen : Go.Shelf.Ren :=
  ⟨fun k => if k = 264 then 349 else if k = 263 then 348 else if k = 212 then 330 else if k = 129 then 333 else if k = 128 then 332 else if k = 125 then 316 else if k = 130 then 302 else k,
   fun k => if k = 3 then 3 else if k = 4 then 4 else if k = 5 then 5 else if k = 9 then 9 else if k = 46 then 224 else if k = 51 then 87 else if k = 53 then 45 else if k = 146 then 375 else if k = 148 then 364 else k, fun k => k⟩
theorem laysMul : Lays.n212 Tryz.prog bitsRen :=
  { mixed := by kernel_rfl, f212 := by kernel_rfl, f263 := by kernel_rfl, f264 := by kernel_rfl,
    t46 := by kernel_rfl, a46 := fun _ => by kernel_rfl, z46 := fun _ => by kernel_rfl, v46 := fun _ => by kernel_rfl,
    t51 := by kernel_rfl, a51 := fun _ => by kernel_rfl, z51 := fun _ => by kernel_rfl, v51 := fun _ => by kernel_rfl,
    t53 := by kernel_rfl, a53 := fun _ => by kernel_rfl, z53 := fun _ => by kernel_rfl, v53 := fun _ => by kernel_rfl,
    t146 := by kernel_rfl, a146 := fun _ => by kernel_rfl, z146 := fun _ => by kernel_rfl, v146 := fun _ => by kernel_rfl,
    t148 := by kernel_rfl, a148 := fun _ => by kernel_rfl, z148 := fun _ => by kernel_rfl, v148 := fun _ => by kernel_rfl }
theorem laysLz : Lays.n130 Tryz.prog bitsRen :=
  { mixed := by kernel_rfl, f125 := by kernel_rfl, f128 := by kernel_rfl, f129 := by kernel_rfl, f130 := by kernel_rfl,
    t3 := by kernel_rfl, a3 := fun _ => by kernel_rfl, z3 := fun _ => by kernel_rfl, v3 := fun _ => by kernel_rfl,
    t4 := by kernel_rfl, a4 := fun _ => by kernel_rfl, z4 := fun _ => by kernel_rfl, v4 := fun _ => by kernel_rfl,
    t5 := by kernel_rfl, a5 := fun _ => by kernel_rfl, z5 := fun _ => by kernel_rfl, v5 := fun _ => by kernel_rfl,
    t9 := by kernel_rfl, a9 := fun _ => by kernel_rfl, z9 := fun _ => by kernel_rfl, v9 := fun _ => by kernel_rfl,
    t46 := by kernel_rfl, a46 := fun _ => by kernel_rfl, z46 := fun _ => by kernel_rfl, v46 := fun _ => by kernel_rfl,
    t51 := by kernel_rfl, a51 := fun _ => by kernel_rfl, z51 := fun _ => by kernel_rfl, v51 := fun _ => by kernel_rfl,
    t53 := by kernel_rfl, a53 := fun _ => by kernel_rfl, z53 := fun _ => by kernel_rfl, v53 := fun _ => by kernel_rfl }
theorem wrapW {x : Nat} (h : x < WB) : IntKind.u64.wrap (x : Int) = (x : Int) := by
  rw [WB_eq] at h
  rw [IntKind.wrap_u64]; omega
theorem bitsMul (x y : Nat) (hx : x < WB) (hy : y < WB) (w : World) :
    Calls Tryz.prog 330 #[.int .u64 x, .int .u64 y] w fun e w' => e = .returned (.tuple #[.int .u64 ((x * y / WB : Nat) : Int), .int .u64 ((x * y % WB : Nat) : Int)]) ∧ w' = w :=
  (Any.bits_Mul laysMul x y hx hy w).mono fun _ _ h => h
theorem bitsLen (x : Nat) (hx : x < WB) (w : World) : Calls Tryz.prog 316 #[.int .u64 x] w fun e w' => e = .returned (.int .i64 (Lib.bitLen x)) ∧ w' = w :=
  (Any.bits_Len { laysLz with } x w (by omega) (by rw [WB_eq] at hx; omega)).mono fun _ _ h => h
theorem bitsLz (x : Nat) (hx : x < WB) (w : World) : Calls Tryz.prog 302 #[.int .u64 x] w fun e w' => e = .returned (.int .i64 (64 - (Lib.bitLen x : Int))) ∧ w' = w :=
  (Any.bits_LeadingZeros laysLz x w (by omega) (by rw [WB_eq] at hx; omega)).mono fun _ _ h => h
theorem call_add64 (x y c : Nat) (hc : c ≤ 1) (w : World) :
    (callFunc 343 #[.int .u64 x, .int .u64 y, .int .u64 c]).run Tryz.prog w = .ok (.value (.tuple #[.int .u64 (((x + y + c) % WB : Nat) : Int), .int .u64 (((x + y + c) / WB : Nat) : Int)])) w := by
  rw [run_callFunc_extern Tryz.func343 (by kernel_rfl) (by kernel_rfl) (by kernel_rfl) (e := add64Entry) (by kernel_rfl), run_add64 x y c (by omega) (by omega) (by omega) (by omega)]
  simp only [Result.andThen]
  rw [WB_eq]
  congr 5 <;> omega
theorem call_sub64 (x y b : Nat) (hb : b ≤ 1) (w : World) :
    (callFunc 345 #[.int .u64 x, .int .u64 y, .int .u64 b]).run Tryz.prog w = .ok (.value (.tuple #[.int .u64 (((x + WB - y - b) % WB : Nat) : Int), .int .u64 ((if x < y + b then 1 else 0 : Nat) : Int)])) w := by
  rw [run_callFunc_extern Tryz.func345 (by kernel_rfl) (by kernel_rfl) (by kernel_rfl) (e := sub64Entry) (by kernel_rfl), run_sub64 x y b hb]
  rfl
def sumW (x y c : Nat) : Nat := (x + y + c) % WB
def carW (x y c : Nat) : Nat := (x + y + c) / WB
def difW (x y c : Nat) : Nat := (x + WB - y - c) % WB
def borW (x y c : Nat) : Nat := if x < y + c then 1 else 0
theorem sumW_lt (x y c : Nat) : sumW x y c < WB := Nat.mod_lt _ WB_pos
theorem difW_lt (x y c : Nat) : difW x y c < WB := Nat.mod_lt _ WB_pos
theorem carW_le1 {x y c : Nat} (hx : x < WB) (hy : y < WB) (hc : c ≤ 1) : carW x y c ≤ 1 := by
  have := (Nat.div_lt_iff_lt_mul WB_pos (x := x + y + c) (y := 2)).2 (by omega)
  unfold carW; omega
theorem borW_le (x y c : Nat) : borW x y c ≤ 1 := by unfold borW; split <;> omega
theorem sumW_car (x y c : Nat) : sumW x y c + WB * carW x y c = x + y + c := Nat.mod_add_div _ _
theorem difW_bor {x y c : Nat} (hx : x < WB) (hy : y < WB) (hc : c ≤ 1) : difW x y c + y + c = x + WB * borW x y c := by
  unfold difW borW
  split
  · rw [Nat.mod_eq_of_lt (by omega)]; omega
  · rw [show x + WB - y - c = (x - y - c) + WB by omega, Nat.add_mod_right, Nat.mod_eq_of_lt (by omega)]; omega
theorem bitsAdd (x y c : Nat) (hx : x < WB) (hy : y < WB) (hc : c ≤ 1) (w : World) :
    Calls Tryz.prog 325 #[.int .u64 x, .int .u64 y, .int .u64 c] w fun e w' => e = .returned (.tuple #[.int .u64 (sumW x y c : Nat), .int .u64 (carW x y c : Nat)]) ∧ w' = w := by
  have e1 := wrapW hx
  have e2 := wrapW hy
  have e3 := wrapW (Nat.lt_of_le_of_lt hc WB_one)
  have e4 : ∀ w, (callFunc 343 #[.int .u64 x, .int .u64 y, .int .u64 c]).run Tryz.prog w = .ok (.value (.tuple #[.int .u64 (sumW x y c : Nat), .int .u64 (carW x y c : Nat)])) w := call_add64 x y c hc
  have e5 := wrapW (sumW_lt x y c)
  have e6 := wrapW (Nat.lt_of_le_of_lt (carW_le1 hx hy hc) WB_one)
  clear hx hy hc
  go_enter Tryz.func325, Tryz.ntmps325
  go_wp2
  go_ret2
  exact ⟨rfl, rfl⟩
theorem bitsSub (x y c : Nat) (hx : x < WB) (hy : y < WB) (hc : c ≤ 1) (w : World) :
    Calls Tryz.prog 327 #[.int .u64 x, .int .u64 y, .int .u64 c] w fun e w' => e = .returned (.tuple #[.int .u64 (difW x y c : Nat), .int .u64 (borW x y c : Nat)]) ∧ w' = w := by
  have e1 := wrapW hx
  have e2 := wrapW hy
  have e3 := wrapW (Nat.lt_of_le_of_lt hc WB_one)
  have e4 : ∀ w, (callFunc 345 #[.int .u64 x, .int .u64 y, .int .u64 c]).run Tryz.prog w = .ok (.value (.tuple #[.int .u64 (difW x y c : Nat), .int .u64 (borW x y c : Nat)])) w := call_sub64 x y c hc
  have e5 := wrapW (difW_lt x y c)
  have e6 := wrapW (Nat.lt_of_le_of_lt (borW_le x y c) WB_one)
  clear hx hy hc
  go_enter Tryz.func327, Tryz.ntmps327
  go_wp2
  go_ret2
  exact ⟨rfl, rfl⟩
end Go.Proofs.YtgamldefngehlaaGreatDoor
namespace Go.Proofs.YtgamldefngehlaaGreatDoor
open Go.RowKit
theorem VecOut.drewN {w w' : World} {bz oz n : Nat} {C zs : List Nat} (h : VecOut w w' bz oz C zs n) (k : Nat) : VecOut w (w'.drewN k) bz oz C zs n := ⟨h.len, h.words, h.blk, h.keep.drewN k⟩
set_option maxRecDepth 100000 in
theorem addVV_g_any (w : World) (bz oz cz bx ox cx by_ oy cy n : Nat) (C xs ys : List Nat) (hz : Blk w bz C) (hx : Vec w bx ox xs) (hy : Vec w by_ oy ys) (hxn : xs.length = n) (hyn : ys.length = n) (hC : oz + n ≤ C.length)
  (ax : bx ≠ bz ∨ ox = oz) (ay : by_ ≠ bz ∨ oy = oz) (wx : Words WB xs) (wy : Words WB ys) (hn : n ≤ 1000000) :
  Calls Tryz.prog 324 #[.slice (some ⟨bz, oz, none⟩) n cz, .slice (some ⟨bx, ox, none⟩) n cx, .slice (some ⟨by_, oy, none⟩) n cy] w fun e w' =>
   ∃ (zs : List Nat) (c : Nat), e = .returned (.int .u64 ((c : Nat) : Int)) ∧ c ≤ 1 ∧ val WB zs + WB ^ n * c = val WB xs + val WB ys ∧ VecOut w w' bz oz C zs n := by
 go_enter Tryz.func324, Tryz.ntmps324
 go_wp2_with fail
 go_loopw [6, 25] (fun c i wr => ∃ (k : Nat) (zs : List Nat) (cc : Nat), k ≤ n ∧ i = .int .i64 k ∧ c = .int .u64 (cc : Nat) ∧ cc ≤ 1 ∧ val WB zs + WB ^ k * cc = val WB (xs.take k) + val WB (ys.take k) ∧ VecOut w wr bz oz C zs k) (fun _ i _ => n - (intOf i).toNat)
 case atStart => exact ⟨0, [], 0, Nat.zero_le _, rfl, rfl, by omega, by simp [val], .start hz⟩
 case round =>
  obtain ⟨k, zs, cc, hk, rfl, rfl, hcc, hval, hout⟩ := hrel
  by_cases hlt : k < n
  ·have hxk := hout.read hz hx ax (by omega) k (by omega) (Nat.le_refl _)
   have hyk := hout.read hz hy ay (by omega) k (by omega) (Nat.le_refl _)
   obtain ⟨u, hzk⟩ := hout.there (by omega)
   have hfk := hout.room (oz + k)
   have wxk := wx.get k (by omega)
   have wyk := wy.get k (by omega)
   go_wp2_with fail
   go_quiet ((go_at_call 325; exact Calls.quiet_of_same (bitsAdd _ _ _ wxk wyk hcc _)))
   go_wp2_with fail
   go_roundw
   case rel =>
    refine ⟨k + 1, zs ++ [sumW xs[k] ys[k] cc], carW xs[k] ys[k] cc, by omega, by go_num, rfl, (carW_le1 wxk wyk hcc), ?_, (hout.drewN _).snoc _ (sumW_lt _ _ _) (by omega)⟩
    rw [val_take_succ xs k (by omega), val_take_succ ys k (by omega)]
    exact val_step_add hout.len hval (sumW_car _ _ _)
   case measure => simp [intOf]; omega
  ·obtain rfl : k = n := by omega
   go_wp2_with fail
   go_ret
   refine ⟨zs, cc, rfl, hcc, ?_, hout⟩
   rwa [List.take_of_length_le (by omega), List.take_of_length_le (by omega)] at hval
theorem addVV_any (w : World) (bz oz cz bx ox cx by_ oy cy n : Nat) (C xs ys : List Nat) (hz : Blk w bz C) (hx : Vec w bx ox xs) (hy : Vec w by_ oy ys) (hxn : xs.length = n) (hyn : ys.length = n) (hC : oz + n ≤ C.length)
  (ax : bx ≠ bz ∨ ox = oz) (ay : by_ ≠ bz ∨ oy = oz) (wx : Words WB xs) (wy : Words WB ys) (hn : n ≤ 1000000) :
  Calls Tryz.prog 298 #[.slice (some ⟨bz, oz, none⟩) n cz, .slice (some ⟨bx, ox, none⟩) n cx, .slice (some ⟨by_, oy, none⟩) n cy] w fun e w' =>
   ∃ (zs : List Nat) (c : Nat), e = .returned (.int .u64 ((c : Nat) : Int)) ∧ c ≤ 1 ∧ val WB zs + WB ^ n * c = val WB xs + val WB ys ∧ VecOut w w' bz oz C zs n := by
 have hP := Lib.hid (addVV_g_any w bz oz cz bx ox cx by_ oy cy n C xs ys hz hx hy hxn hyn hC ax ay wx wy hn)
 clear hz hx hy hxn hyn hC ax ay wx wy hn
 go_enter Tryz.func298, Tryz.ntmps298
 go_wp2_with fail
 refine hP.out.mono ?_
 rintro e w' ⟨zs, c, rfl, h⟩
 go_wp2
 go_ret
 exact ⟨zs, c, rfl, h⟩
set_option maxRecDepth 100000 in
theorem subVV_g_any (w : World) (bz oz cz bx ox cx by_ oy cy n : Nat) (C xs ys : List Nat) (hz : Blk w bz C) (hx : Vec w bx ox xs) (hy : Vec w by_ oy ys) (hxn : xs.length = n) (hyn : ys.length = n) (hC : oz + n ≤ C.length)
  (ax : bx ≠ bz ∨ ox = oz) (ay : by_ ≠ bz ∨ oy = oz) (wx : Words WB xs) (wy : Words WB ys) (hn : n ≤ 1000000) :
  Calls Tryz.prog 326 #[.slice (some ⟨bz, oz, none⟩) n cz, .slice (some ⟨bx, ox, none⟩) n cx, .slice (some ⟨by_, oy, none⟩) n cy] w fun e w' =>
   ∃ (zs : List Nat) (c : Nat), e = .returned (.int .u64 ((c : Nat) : Int)) ∧ c ≤ 1 ∧ val WB zs + val WB ys = val WB xs + WB ^ n * c ∧ VecOut w w' bz oz C zs n := by
 go_enter Tryz.func326, Tryz.ntmps326
 go_wp2_with fail
 go_loopw [6, 25] (fun c i wr => ∃ (k : Nat) (zs : List Nat) (cc : Nat), k ≤ n ∧ i = .int .i64 k ∧ c = .int .u64 (cc : Nat) ∧ cc ≤ 1 ∧ val WB zs + val WB (ys.take k) = val WB (xs.take k) + WB ^ k * cc ∧ VecOut w wr bz oz C zs k) (fun _ i _ => n - (intOf i).toNat)
 case atStart => exact ⟨0, [], 0, Nat.zero_le _, rfl, rfl, by omega, by simp [val], .start hz⟩
 case round =>
  obtain ⟨k, zs, cc, hk, rfl, rfl, hcc, hval, hout⟩ := hrel
  by_cases hlt : k < n
  ·have hxk := hout.read hz hx ax (by omega) k (by omega) (Nat.le_refl _)
   have hyk := hout.read hz hy ay (by omega) k (by omega) (Nat.le_refl _)
   obtain ⟨u, hzk⟩ := hout.there (by omega)
   have hfk := hout.room (oz + k)
   have wxk := wx.get k (by omega)
   have wyk := wy.get k (by omega)
   go_wp2_with fail
   go_quiet ((go_at_call 327; exact Calls.quiet_of_same (bitsSub _ _ _ wxk wyk hcc _)))
   go_wp2_with fail
   go_roundw
   case rel =>
    refine ⟨k + 1, zs ++ [difW xs[k] ys[k] cc], borW xs[k] ys[k] cc, by omega, by go_num, rfl, (borW_le _ _ _), ?_, (hout.drewN _).snoc _ (difW_lt _ _ _) (by omega)⟩
    rw [val_take_succ xs k (by omega), val_take_succ ys k (by omega)]
    exact val_step_sub hout.len hval (difW_bor wxk wyk hcc)
   case measure => simp [intOf]; omega
  ·obtain rfl : k = n := by omega
   go_wp2_with fail
   go_ret
   refine ⟨zs, cc, rfl, hcc, ?_, hout⟩
   rwa [List.take_of_length_le (by omega), List.take_of_length_le (by omega)] at hval
theorem subVV_any (w : World) (bz oz cz bx ox cx by_ oy cy n : Nat) (C xs ys : List Nat) (hz : Blk w bz C) (hx : Vec w bx ox xs) (hy : Vec w by_ oy ys) (hxn : xs.length = n) (hyn : ys.length = n) (hC : oz + n ≤ C.length)
  (ax : bx ≠ bz ∨ ox = oz) (ay : by_ ≠ bz ∨ oy = oz) (wx : Words WB xs) (wy : Words WB ys) (hn : n ≤ 1000000) :
  Calls Tryz.prog 300 #[.slice (some ⟨bz, oz, none⟩) n cz, .slice (some ⟨bx, ox, none⟩) n cx, .slice (some ⟨by_, oy, none⟩) n cy] w fun e w' =>
   ∃ (zs : List Nat) (c : Nat), e = .returned (.int .u64 ((c : Nat) : Int)) ∧ c ≤ 1 ∧ val WB zs + val WB ys = val WB xs + WB ^ n * c ∧ VecOut w w' bz oz C zs n := by
 have hP := Lib.hid (subVV_g_any w bz oz cz bx ox cx by_ oy cy n C xs ys hz hx hy hxn hyn hC ax ay wx wy hn)
 clear hz hx hy hxn hyn hC ax ay wx wy hn
 go_enter Tryz.func300, Tryz.ntmps300
 go_wp2_with fail
 refine hP.out.mono ?_
 rintro e w' ⟨zs, c, rfl, h⟩
 go_wp2
 go_ret
 exact ⟨zs, c, rfl, h⟩
end Go.Proofs.YtgamldefngehlaaGreatDoor
namespace Go.Proofs.YtgamldefngehlaaGreatDoor
open Go.RowKit
def Known (w : World) (b : Nat) : Prop := ∃ (ca : Array Value) (ta : TypeId), w.heap[b]? = some (.cells ca ta (0, 0))
theorem Known.kept {w w' : World} {b : Nat} (h : Known w b) (hb : w'.heap[b]? = w.heap[b]?) : Known w' b := by
 obtain ⟨ca, ta, h⟩ := h; exact ⟨ca, ta, hb.trans h⟩
theorem run_equalIn_ptr {P : Program} (w : World) (d : Nat) {tp te : TypeId} {j : TypeInfo} (a b : Addr) (hp : P.underlying tp = some (.pointer te)) (hte : P.info? te = some j) (hsz : j.size ≠ 0) (ha : Known w a.block) (hb : Known w b.block) :
  (Op.equalIn (d + 1) tp (.pointer (some a)) (.pointer (some b))).run P w = .ok (decide (a = b)) w := by
 obtain ⟨ca, ta, ha⟩ := ha
 obtain ⟨cb, tb, hb⟩ := hb
 by_cases h : a = b
 ·subst h
  simp [Op.equalIn, run_underlying hp, sizeOf, typeInfo, hte, hsz, run_sameAddr_same]
 ·simp [Op.equalIn, run_underlying hp, sizeOf, typeInfo, hte, hsz, run_sameAddr_other w h ha hb, h]
theorem run_eql_ptr {P : Program} (w : World) {tp te : TypeId} {j : TypeInfo} (a b : Addr) (hp : P.underlying tp = some (.pointer te)) (hte : P.info? te = some j) (hsz : j.size ≠ 0) (ha : Known w a.block) (hb : Known w b.block) :
  (binOp .eql tp (.pointer (some a)) (.pointer (some b))).run P w = .ok (.bool (decide (a = b))) w := by
 simp only [binOp]
 simp [Op.equal, Op.maxDepth, run_equalIn_ptr w 9999 a b hp hte hsz ha hb]
theorem run_neq_ptr {P : Program} (w : World) {tp te : TypeId} {j : TypeInfo} (a b : Addr) (hp : P.underlying tp = some (.pointer te)) (hte : P.info? te = some j) (hsz : j.size ≠ 0) (ha : Known w a.block) (hb : Known w b.block) :
  (binOp .neq tp (.pointer (some a)) (.pointer (some b))).run P w = .ok (.bool (!decide (a = b))) w := by
 simp only [binOp]
 simp [Op.equal, Op.maxDepth, run_equalIn_ptr w 9999 a b hp hte hsz ha hb]
theorem infoOf {P : Program} {t : TypeId} {k : Nat} (h : (P.info? t).map (·.size) = some k) (hk : k ≠ 0) : ∃ j, P.info? t = some j ∧ j.size ≠ 0 := by
 obtain ⟨j, h1, h2⟩ := Option.map_eq_some_iff.1 h
 exact ⟨j, h1, by rw [h2]; exact hk⟩
theorem wordNe (w : World) (a b : Addr) (ha : Known w a.block) (hb : Known w b.block) : (binOp .neq 253 (.pointer (some a)) (.pointer (some b))).run Tryz.prog w = .ok (.bool (!decide (a = b))) w := by
 obtain ⟨j, h1, h2⟩ := infoOf (P := Tryz.prog) (t := 225) (k := 1) (by kernel_rfl) (by decide)
 exact run_neq_ptr w a b Tryz.underlying253 h1 h2 ha hb
theorem wordEq (w : World) (a b : Addr) (ha : Known w a.block) (hb : Known w b.block) : (binOp .eql 253 (.pointer (some a)) (.pointer (some b))).run Tryz.prog w = .ok (.bool (decide (a = b))) w := by
 obtain ⟨j, h1, h2⟩ := infoOf (P := Tryz.prog) (t := 225) (k := 1) (by kernel_rfl) (by decide)
 exact run_eql_ptr w a b Tryz.underlying253 h1 h2 ha hb
theorem intNe (w : World) (a b : Addr) (ha : Known w a.block) (hb : Known w b.block) : (binOp .neq 133 (.pointer (some a)) (.pointer (some b))).run Tryz.prog w = .ok (.bool (!decide (a = b))) w := by
 obtain ⟨j, h1, h2⟩ := infoOf (P := Tryz.prog) (t := 139) (k := 2) (by kernel_rfl) (by decide)
 exact run_neq_ptr w a b Tryz.underlying133 h1 h2 ha hb
theorem intEq (w : World) (a b : Addr) (ha : Known w a.block) (hb : Known w b.block) : (binOp .eql 133 (.pointer (some a)) (.pointer (some b))).run Tryz.prog w = .ok (.bool (decide (a = b))) w := by
 obtain ⟨j, h1, h2⟩ := infoOf (P := Tryz.prog) (t := 139) (k := 2) (by kernel_rfl) (by decide)
 exact run_eql_ptr w a b Tryz.underlying133 h1 h2 ha hb
theorem ratNe (w : World) (a b : Addr) (ha : Known w a.block) (hb : Known w b.block) : (binOp .neq 93 (.pointer (some a)) (.pointer (some b))).run Tryz.prog w = .ok (.bool (!decide (a = b))) w := by
 obtain ⟨j, h1, h2⟩ := infoOf (P := Tryz.prog) (t := 141) (k := 4) (by kernel_rfl) (by decide)
 exact run_neq_ptr w a b Tryz.underlying93 h1 h2 ha hb
end Go.Proofs.YtgamldefngehlaaGreatDoor
namespace Go.Proofs.YtgamldefngehlaaGreatDoor
open Go.RowKit
def leB (n : Int) : Nat → List Int
 | 0 => []
 | k + 1 => n % 256 :: leB (n / 256) k
@[simp] theorem leB_length (n : Int) (k : Nat) : (leB n k).length = k := by
 induction k generalizing n with
 | zero => rfl
 | succ k ih => simp [leB, ih]
end Go.Proofs.YtgamldefngehlaaGreatDoor
namespace Go.Proofs.YtgamldefngehlaaGreatDoor
open Go.RowKit
abbrev valCells (k : Int) (b : Bool) (i : Int) (f : Nat) (bs : Value) (s : ByteArray) (rn : Bool) (ra rd : Value) : Array Value :=
 #[.int .i64 k, .bool b, .int .i64 i, .float .f64 f, bs, .string s, .int .i64 0, .int .i64 0, .int .i64 0, .int .i64 0, .int .i64 0, .int .i64 0, .int .i64 0, .bool rn, ra, rd,
  .int .i64 0, .int .i64 0, .int .i64 0, .int .i64 0, .int .u64 0, .slice none 0 0]
theorem near_any (n : Int) (w : World) (h0 : -10 ≤ n) (h1 : n ≤ 1000) : Calls Tryz.prog 19 #[.int .i64 n] w fun e w' => e = .returned (.bool true) ∧ w = w' := by
 go_enter Tryz.func19, Tryz.ntmps19
 go_wp2
 go_ret
 exact ⟨by simp, rfl⟩
abbrev fieldCells (names : Nat) (tc prec scale : Int) : Array Value := #[.pointer (some ⟨names, 0, none⟩), .int .i64 0, .int .i64 prec, .int .i64 scale, .int .i8 0, .int .u8 tc, .int .i8 1]
set_option maxRecDepth 100000 in
theorem field_any (tc prec scale : Int) (w : World) : Calls Tryz.prog 20 #[.int .u8 tc, .int .i64 prec, .int .i64 scale, .int .i64 1] w fun e w' =>
   e = .returned (.pointer (some ⟨w.heap.size + 1, 0, none⟩)) ∧ (w.alloc (.cells #[.slice none 0 0] 102)).alloc (.cells (fieldCells w.heap.size tc prec scale) 108) = w' := by
 go_enter Tryz.func20, Tryz.ntmps20
 go_wp2
 go_ret
 exact ⟨rfl, rfl⟩
end Go.Proofs.YtgamldefngehlaaGreatDoor
