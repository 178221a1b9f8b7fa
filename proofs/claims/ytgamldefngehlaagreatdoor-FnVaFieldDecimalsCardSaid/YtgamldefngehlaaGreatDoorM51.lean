/- A parameter that is a decimal is the type code 5 and the 16 bytes of a decimal of the same worth, and is read back as a number of the same worth; so is a result: the law holds at every input. There are no conditions. -/
import Derived.Test.YtgamldefngehlaaGreatDoorM01
import Derived.Test.YtgamldefngehlaaGreatDoorM08
import Derived.Test.YtgamldefngehlaaGreatDoorM46
import Derived.Test.YtgamldefngehlaaGreatDoorM47
import Derived.Test.YtgamldefngehlaaGreatDoorM49
import Derived.Test.YtgamldefngehlaaGreatDoorM50
import Derived.Laws.Cover2
import Derived.Lib.SmallJoins
set_option linter.unusedVariables false
set_option linter.unusedSimpArgs false
namespace Go.Proofs.YtgamldefngehlaaGreatDoor.fnVaFieldDecimals
open Go.ChangeShapes Go.WideShapes Go.ChangeAt Go.RowKit Go.Joins
theorem cellsU8 : Tryz.prog.cellsOf 5 = 1 := by kernel_rfl
theorem u8Reads {H : Type} {w : World} {v : Value} {d : DataW H} {p : List MemPlace} (h : U8Arg w v d p) : ∃ xs, Reads .u8 w v xs ∧ ∀ x ∈ xs, x < 256 := by
 cases h with
 | isNil => exact ⟨[], reads_nil _ _, fun _ h => by cases h⟩
 | isSome a len cap zs hl hm hz hcell hwf =>
  have hb : ∀ x ∈ zs, 0 ≤ x ∧ x ≤ 255 := fun x hx => bounds_u8 (hwf x hx)
  have hlen : ((zs.take len).map Int.toNat).length = len := by simp; omega
  refine ⟨(zs.take len).map Int.toNat, ?_, fun x hx => ?_⟩
  ·have := reads_cells (k := .u8) (w := w) (a := a) (c := cap) (xs := (zs.take len).map Int.toNat) (by omega) (by unfold maxLen at hm; omega) (fun j hj => ?_)
   ·rw [hlen] at this; exact this
   ·have hj' : j < zs.length := by omega
    have h2 := hb _ (List.getElem_mem hj')
    rw [hcell j hj']
    simp only [List.getElem_map, List.getElem_take, List.getD_eq_getElem?_getD, List.getElem?_eq_getElem hj', Option.getD_some]
    rw [Int.toNat_of_nonneg h2.1]
  ·obtain ⟨y, hy, rfl⟩ := List.mem_map.1 hx
   have := hb y (List.mem_of_mem_take hy)
   omega
set_option maxRecDepth 100000 in
theorem decimalsAny (W : World) (hT : Thr W) (hGL : GL ≤ W.heap.size) (neg : Bool) {H : Type} {v : Value} {d : DataW H} {p : List MemPlace} (h : U8Arg W v d p) (x : Int) :
  Calls Tryz.prog 3 #[.agg #[.bool neg, v], .int .i64 x] W fun e W' => e = .returned (.bool true) ∧ Below W.heap.size W W' := by
 obtain ⟨xs, hr, hb⟩ := u8Reads h
 exact lawDecimals W hT hGL neg v xs hr hb x
set_option maxRecDepth 100000 in
theorem contract (H : Type) (enc : TypeId × Value → H) (W : World) (base : Nat) (args : Array Value) (ds gs : List (DataW H)) (before : List MemPlace)
  (hval : ∀ (j : Nat) t v, Tryz.f3.params[j]? = some t → args[j]? = some v → Value.okWide Tryz.prog W .any base t v)
  (hW : DataW.Whole enc Tryz.prog Tryz.f3.params.toList Rows.fnVaFieldDecimalsSpec.vars false W args.toList ds gs before) (hT : Thr W ∧ GL ≤ W.heap.size) :
  Calls Tryz.prog 3 args W fun e W' => ∃ v, e = .returned v ∧ Rows.fnVaFieldDecimalsSpec.post enc Tryz.prog Tryz.f3 false true false false W args v W' := by
 have hW' := hW
 obtain ⟨p, q, hA0, hV, rfl, hfz, hnd⟩ := hW
 have hA : DataW.TrodAll enc Tryz.prog W 0 (fun _ => true) true Tryz.f3.params.toList args.toList ds p := hA0
 rw [Tryz.params3] at hA hval
 obtain ⟨v0, v1, d0, d1, p0, p1, rfl, rfl, rfl, h0, h1⟩ := trodAll_two hA
 obtain ⟨n0, u1, y0, ⟨dy, py⟩, m, rfl, rfl, rfl, t0, t1⟩ := open_agg2 Tryz.underlying24 (by kernel_rfl) (by kernel_rfl) (hval 0 24 v0 rfl rfl) h0
 obtain ⟨neg, hn0, rfl⟩ := DataW.trod_bool Tryz.underlying4 t0
 obtain rfl : n0 = .bool neg := by simpa using hn0
 obtain ⟨u1', hu0, hu1⟩ := open_u8cells Tryz.underlying22 Tryz.underlying5 cellsU8 t1
 obtain rfl : u1 = u1' := by simpa using hu0
 have hl1 : ∀ q ∈ py, q.block < W.heap.size := fun q hq => hW'.lt q (by simp [hq])
 obtain ⟨c, rfl, rfl, rfl, hwf2⟩ := open_int Tryz.underlying3 (hval 1 3 v1 rfl rfl) h1
 clear hA0
 refine (decimalsAny W hT.1 hT.2 neg hu1 c).mono fun e W' ⟨he, hb⟩ => ?_
 subst he
 obtain ⟨g1, g2, g3, g4, rfl⟩ : ∃ g1 g2 g3 g4, gs = [g1, g2, g3, g4] := by
  match gs, hV with
  | [g1, g2, g3, g4], _ => exact ⟨g1, g2, g3, g4, rfl⟩
  | [], hV => simp [DataW.TrodVars, Rows.fnVaFieldDecimalsSpec] at hV
  | [_], hV => obtain ⟨_, _, _, _, _, _, _, _, _, _, h, _⟩ := hV; simp [DataW.TrodVars] at h
  | [_, _], hV => obtain ⟨_, _, _, _, _, _, _, _, _, _, ⟨_, _, _, _, _, _, _, _, _, _, h, _⟩, _⟩ := hV; simp [DataW.TrodVars] at h
  | [_, _, _], hV => obtain ⟨_, _, _, _, _, _, _, _, _, _, ⟨_, _, _, _, _, _, _, _, _, _, ⟨_, _, _, _, _, _, _, _, _, _, h, _⟩, _⟩, _⟩ := hV; simp [DataW.TrodVars] at h
  | _ :: _ :: _ :: _ :: _ :: _, hV => obtain ⟨_, _, _, _, _, _, _, _, _, _, ⟨_, _, _, _, _, _, _, _, _, _, ⟨_, _, _, _, _, _, _, _, _, _, ⟨_, _, _, _, _, _, _, _, _, _, h, _⟩, _⟩, _⟩, _⟩ := hV; simp [DataW.TrodVars] at h
 have hV' := intVars Tryz.underlying3 hb intGlobals hV
 have mkA : ∀ sp : Nat → Bool, (∀ r ∈ py ++ q, sp r.block = true) → DataW.TrodAll enc Tryz.prog W' 0 sp true Tryz.f3.params.toList [.agg #[.bool neg, u1], .int .i64 c] [.agg [.lit (.bool neg), dy], .lit (.int .i64 c)] py := fun sp hsp => by
  rw [Tryz.params3]
  have hs := shut_agg2 (enc := enc) (w := W') (base := 0) (spare := sp) (held := true) (v0 := .bool neg) (v1 := u1) (y0 := (.lit (.bool neg), [])) (y1 := (dy, py)) Tryz.underlying24 (by kernel_rfl) (by kernel_rfl) ⟨1, by simp [DataW.trod, Tryz.underlying4]⟩ ⟨2, hu1.keep Tryz.underlying22 Tryz.underlying5 cellsU8 hb hl1 sp (fun r hr => hsp r (by simp [hr]))⟩
  have hm := trodAll_cons_mk hs (trodAll_cons_mk (shut_int Tryz.underlying3 hwf2) trodAll_mk0)
  simpa using hm
 exact ⟨_, rfl, post_of_below (pa := py) (pv := q) hW' (fun _ _ _ => trodAll_cons_mk (shut_bool Tryz.underlying4 _) trodAll_mk0) (fun sp hsp => mkA sp (by simpa using hsp)) (fun sp _ => hV' sp) (by simp) hb
  (ok_one (by kernel_rfl) rfl (okWide_bool_mk Tryz.underlying4 _))⟩
theorem laid_met (os : Os) : laidMet Tryz.prog Rows.fnVaFieldDecimalsRow.laid ((World.laidAll Tryz.prog os Rows.fnVaFieldDecimalsRow.laid).forCall (fun _ _ => 0) ⟨#[], #[.agg #[.bool false, .slice none 0 0], .int .i64 0], []⟩).memory :=
 laidMet_laidAll _ (by kernel_rfl) (by kernel_rfl)
theorem reads (os : Os) {H : Type} (enc : TypeId × Value → H) : ∃ places gs, DataW.whole enc Tryz.prog ((World.laidAll Tryz.prog os Rows.fnVaFieldDecimalsRow.laid).forCall (fun _ _ => 0) ⟨#[], #[.agg #[.bool false, .slice none 0 0], .int .i64 0], []⟩).memory Tryz.f3.params.toList Rows.fnVaFieldDecimalsSpec.vars false #[Value.agg #[.bool false, .slice none 0 0], Value.int .i64 0].toList 8 = some ([.agg [.lit (.bool false), .nil], .lit (.int .i64 0)], gs, places) :=
 ⟨[.cell 2 0, .cell 7 0, .cell 5 0, .cell 6 0], [.lit (.int .i64 40), .lit (.int .i64 40), .lit (.int .i64 12), .lit (.int .i64 80)], by kernel_rfl⟩
set_option maxRecDepth 100000 in
theorem lifted (os : Os) (started : os.Started) (H : Type) (enc : TypeId × Value → H) (F : Stop.Interp) :
  ReturnsInHanded {} Tryz.checked os 3 .any ((OpenSpec.ofChange Rows.fnVaFieldDecimalsSpec).preRow enc Tryz.prog Tryz.f3 Rows.fnVaFieldDecimalsRow.domain false Rows.fnVaFieldDecimalsRow.laid) (((OpenSpec.ofChange Rows.fnVaFieldDecimalsSpec).at F).post enc Tryz.prog Tryz.f3 false true false false) := by
 obtain ⟨places, gs, hx⟩ := reads os enc
 refine returnsInHanded_of_row (C := Tryz.checked) (s := OpenSpec.ofChange Rows.fnVaFieldDecimalsSpec) own started (by kernel_rfl) Tryz.func3
  (witness_row_at (enc := enc) (C := Tryz.checked) false (World.laidAll Tryz.prog os Rows.fnVaFieldDecimalsRow.laid) #[.agg #[.bool false, .slice none 0 0], .int .i64 0] (World.laidAll_os _ _ _) (by kernel_rfl) (by kernel_rfl) (by kernel_rfl)
   (OpenSpec.preRow_of_cond 8 hx (by kernel_rfl) (fun k hk => by cases hk) (by kernel_rfl) (laid_met os))) ?_
 intro W base args ds gs before hval hW _ _ _ hL _ _
 exact contract H enc W base args ds gs before hval hW (thrOf (show laidMet _ _ _ from hL) (by repeat (first | exact List.Mem.head _ | apply List.Mem.tail)) (by repeat (first | exact List.Mem.head _ | apply List.Mem.tail)) (by repeat (first | exact List.Mem.head _ | apply List.Mem.tail)) (by repeat (first | exact List.Mem.head _ | apply List.Mem.tail)))
theorem said : Rows.FnVaFieldDecimalsSaid :=
 OpenClaim.holds_of_cond 3 Tryz.f3 rfl rfl rfl rfl rfl rfl rfl ⟨rfl, rfl, rfl, rfl, rfl⟩ rfl rfl rfl rfl rfl named Tryz.func3 closedP
  instanced wrapped (fun os started H enc _ F => by rw [OpenClaim.pre_eq_preRow]; exact lifted os started H enc F)
theorem plain (f : FuncId) (fn : Func) (hf : Tryz.pinned.checked.prog.funcNamed "given.example/pub-anacrusis/laws.FnVaFieldDecimals" = some f) (hfn : Tryz.pinned.checked.prog.funcs[f]? = some fn) :
  true = Tryz.pinned.checked.prog.looks [] ∧ ∀ (j : Nat) t, fn.params[j]? = some t → Tryz.pinned.checked.prog.wantsStandIn t = false := by
 obtain rfl : f = 3 := Option.some.inj (named.symm.trans hf) |>.symm
 obtain rfl : fn = Tryz.f3 := (Option.some.inj (Tryz.func3.symm.trans hfn)).symm
 refine ⟨by kernel_rfl, fun j t ht => ?_⟩
 rw [Tryz.params3] at ht
 have ht2 : t = 24 ∨ t = 3 := by simpa using Array.mem_of_getElem? ht
 rcases ht2 with rfl | rfl
 ·exact (show Tryz.prog.wantsStandIn 24 = false by kernel_rfl)
 ·exact (show Tryz.prog.wantsStandIn 3 = false by kernel_rfl)
theorem card : Rows.FnVaFieldDecimalsCardSaid :=
 Claim7.holds_tied_plain_at .later [] _ _ _ _ said (fun _ h => by cases h) (by kernel_rfl) (fun _ h => by cases h) fnVaFieldDecimals_row_tie rfl ⟨rfl, rfl⟩ (by kernel_rfl) rfl plain (goesB _ rfl)
end Go.Proofs.YtgamldefngehlaaGreatDoor.fnVaFieldDecimals
