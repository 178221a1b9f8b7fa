/- A parameter that is a text of ASCII is its type code, its length and the text, and is read back: the law holds at every input. There are no conditions. -/
import Derived.Test.YtipoenpakjpokaaGreatDoorClose
import Derived.Test.YtipoenpakjpokaaGreatDoorLawTexts
import Derived.Test.YtipoenpakjpokaaGreatDoorGoes
import Derived.Test.YtipoenpakjpokaaGreatDoorFactsTexts
import Derived.Laws.Cover2
import Derived.Test.YtipoenpakjpokaaGreatDoorArgU8
set_option linter.unusedVariables false
set_option linter.unusedSimpArgs false
namespace Go.Proofs.YtipoenpakjpokaaGreatDoor.fnVaFieldTexts
open Go.ChangeShapes Go.WideShapes Go.ChangeAt Go.RowKit

theorem cellsU8 : Tryz.prog.cellsOf 5 = 1 := by kernel_rfl
set_option maxRecDepth 100000 in
/-- The law at whatever bytes. -/
theorem textsAny (W : World) (which : Int) (h0 : 0 ≤ which) (h1 : which ≤ 255) (asB : Bool) {H : Type} {v : Value} {d : DataW H} {p : List MemPlace} (h : U8Arg W v d p) (hlt : ∀ q ∈ p, q.block < W.heap.size) :
    Calls Tryz.prog 3 #[.int .u8 which, v, .bool asB] W fun e W' => e = .returned (.bool true) ∧ Below W.heap.size W W' := by
  have h1' : which < 256 := by omega
  cases h with
  | isNil => 
      exact match asB with | false => lawTextsN0 W which h0 h1' [] rfl | true => lawTextsN1 W which h0 h1' [] rfl
  | isSome a len cap zs hl hm hz hcell hwf =>
    by_cases hc : zs.length = 0
    · obtain rfl : cap = 0 := by omega
      obtain rfl : len = 0 := by omega
      
      exact match asB with | false => lawTextsZ0 W which h0 h1' a [] rfl | true => lawTextsZ1 W which h0 h1' a [] rfl
    · obtain ⟨b, off, spot⟩ := a
      have hspot : spot = none := World.cell?_spot (by simpa [Addr.add] using hcell 0 (by omega))
      subst hspot
      have hb : b < W.heap.size := hlt (.cell b off) (MemPlace.mem_row.2 ⟨0, by omega, by simp⟩)
      by_cases hbig : len ≤ 2147483647
      · have hin : Input W b off len cap (zs.take len) := by
          refine ⟨by simp; omega, hl, by unfold maxLen at hm; exact hm, fun j hj => ?_⟩
          simp only [List.length_take] at hj
          have := hcell j (by omega)
          rw [Addr.add_lit] at this
          rw [this]
          simp [List.getD, List.getElem?_eq_getElem (show j < zs.length by omega)]
        have hu : ∀ x ∈ zs.take len, 0 ≤ x ∧ x ≤ 255 := fun x hx => bounds_u8 (hwf x (List.mem_of_mem_take hx))
        
        exact match asB with | false => lawTexts0 W which h0 h1' b off len cap _ hin hb hu hbig | true => lawTexts1 W which h0 h1' b off len cap _ hin hb hu hbig
      · exact lawTextsBig W which _ len cap asB (by omega) (by unfold maxLen at hm; omega)

set_option maxRecDepth 100000 in
theorem contract (H : Type) (enc : TypeId × Value → H) (W : World) (base : Nat) (args : Array Value) (ds gs : List (DataW H)) (before : List MemPlace)
    (hval : ∀ (j : Nat) t v, Tryz.f3.params[j]? = some t → args[j]? = some v → Value.okWide Tryz.prog W .any base t v)
    (hW : DataW.Whole enc Tryz.prog Tryz.f3.params.toList Rows.fnVaFieldTextsSpec.vars false W args.toList ds gs before) :
    Calls Tryz.prog 3 args W fun e W' => ∃ v, e = .returned v ∧ Rows.fnVaFieldTextsSpec.post enc Tryz.prog Tryz.f3 false true false false W args v W' := by
  have hW' := hW
  obtain ⟨p, q, hA0, hV, rfl, hfz, hnd⟩ := hW
  have hA : DataW.TrodAll enc Tryz.prog W 0 (fun _ => true) true Tryz.f3.params.toList args.toList ds p := hA0
  rw [Tryz.params3] at hA hval
  obtain ⟨v0, v1, v2, d0, d1, d2, p0, p1, p2, rfl, rfl, rfl, h0, h1, h2⟩ := trodAll_three hA
  obtain ⟨a, rfl, rfl, rfl, hwf0⟩ := open_int Tryz.underlying5 (hval 0 5 v0 rfl rfl) h0
  have hr0 : (0 : Int) ≤ a ∧ a ≤ 255 := by simpa [Lit.wf, IntKind.min, IntKind.max, IntKind.signed, IntKind.bits] using hwf0
  have hu1 := open_u8 Tryz.underlying22 Tryz.underlying5 cellsU8 (hval 1 22 v1 rfl rfl) h1
  have hl1 : ∀ q ∈ p1, q.block < W.heap.size := fun q hq => hW'.lt q (by simp [hq])
  obtain ⟨c, rfl, rfl, rfl⟩ := open_bool Tryz.underlying4 (hval 2 4 v2 rfl rfl) h2
  clear hA0
  refine (textsAny W a hr0.1 hr0.2 c hu1 hl1).mono fun e W' ⟨he, hb⟩ => ?_
  subst he
  obtain ⟨g1, g2, g3, g4, rfl⟩ : ∃ g1 g2 g3 g4, gs = [g1, g2, g3, g4] := by
    match gs, hV with
    | [g1, g2, g3, g4], _ => exact ⟨g1, g2, g3, g4, rfl⟩
    | [], hV => simp [DataW.TrodVars, Rows.fnVaFieldTextsSpec] at hV
    | [_], hV => obtain ⟨_, _, _, _, _, _, _, _, _, _, h, _⟩ := hV; simp [DataW.TrodVars] at h
    | [_, _], hV => obtain ⟨_, _, _, _, _, _, _, _, _, _, ⟨_, _, _, _, _, _, _, _, _, _, h, _⟩, _⟩ := hV; simp [DataW.TrodVars] at h
    | [_, _, _], hV => obtain ⟨_, _, _, _, _, _, _, _, _, _, ⟨_, _, _, _, _, _, _, _, _, _, ⟨_, _, _, _, _, _, _, _, _, _, h, _⟩, _⟩, _⟩ := hV; simp [DataW.TrodVars] at h
    | _ :: _ :: _ :: _ :: _ :: _, hV => obtain ⟨_, _, _, _, _, _, _, _, _, _, ⟨_, _, _, _, _, _, _, _, _, _, ⟨_, _, _, _, _, _, _, _, _, _, ⟨_, _, _, _, _, _, _, _, _, _, h, _⟩, _⟩, _⟩, _⟩ := hV; simp [DataW.TrodVars] at h
  have hV' := intVars Tryz.underlying3 hb intGlobals hV
  have mkA : ∀ sp : Nat → Bool, (∀ r ∈ p1 ++ q, sp r.block = true) → DataW.TrodAll enc Tryz.prog W' 0 sp true Tryz.f3.params.toList [.int .u8 a, v1, .bool c] [.lit (.int .u8 a), d1, .lit (.bool c)] (p1) := fun sp hsp => by
    rw [Tryz.params3]
    have hm := trodAll_cons_mk (shut_int Tryz.underlying5 hwf0) (trodAll_cons_mk (hu1.keepT (enc := enc) (held := true) Tryz.underlying22 Tryz.underlying5 cellsU8 hb hl1 sp (fun r hr => hsp r (by simp [hr]))) (trodAll_cons_mk (shut_bool Tryz.underlying4 c) trodAll_mk0))
    simpa using hm
  exact ⟨_, rfl, post_of_below (pa := p1) (pv := q) hW' (fun _ _ _ => trodAll_cons_mk (shut_bool Tryz.underlying4 _) trodAll_mk0) (fun sp hsp => mkA sp (by simpa using hsp)) (fun sp _ => hV' sp) (by simp) hb
    (ok_one (by kernel_rfl) rfl (okWide_bool_mk Tryz.underlying4 _))⟩

theorem laid_met (os : Os) : laidMet Tryz.prog Rows.fnVaFieldTextsRow.laid ((World.laidAll Tryz.prog os Rows.fnVaFieldTextsRow.laid).forCall (fun _ _ => 0) ⟨#[], #[.int .u8 0, .slice none 0 0, .bool false], []⟩).memory :=
  laidMet_laidAll _ (by kernel_rfl) (by kernel_rfl)
theorem reads (os : Os) {H : Type} (enc : TypeId × Value → H) : ∃ places gs, DataW.whole enc Tryz.prog ((World.laidAll Tryz.prog os Rows.fnVaFieldTextsRow.laid).forCall (fun _ _ => 0) ⟨#[], #[.int .u8 0, .slice none 0 0, .bool false], []⟩).memory Tryz.f3.params.toList Rows.fnVaFieldTextsSpec.vars false #[Value.int .u8 0, Value.slice none 0 0, Value.bool false].toList 8 = some ([.lit (.int .u8 0), .nil, .lit (.bool false)], gs, places) :=
  ⟨[.cell 2 0, .cell 7 0, .cell 5 0, .cell 6 0], [.lit (.int .i64 40), .lit (.int .i64 40), .lit (.int .i64 12), .lit (.int .i64 80)], by kernel_rfl⟩

set_option maxRecDepth 100000 in
theorem lifted (os : Os) (started : os.Started) (H : Type) (enc : TypeId × Value → H) (F : Stop.Interp) :
    ReturnsInHanded {} Tryz.checked os 3 .any ((OpenSpec.ofChange Rows.fnVaFieldTextsSpec).preRow enc Tryz.prog Tryz.f3 Rows.fnVaFieldTextsRow.domain false Rows.fnVaFieldTextsRow.laid) (((OpenSpec.ofChange Rows.fnVaFieldTextsSpec).at F).post enc Tryz.prog Tryz.f3 false true false false) := by
  obtain ⟨places, gs, hx⟩ := reads os enc
  refine returnsInHanded_of_row (C := Tryz.checked) (s := OpenSpec.ofChange Rows.fnVaFieldTextsSpec) own started (by kernel_rfl) Tryz.func3
    (witness_row_at (enc := enc) (C := Tryz.checked) false (World.laidAll Tryz.prog os Rows.fnVaFieldTextsRow.laid) #[.int .u8 0, .slice none 0 0, .bool false] (World.laidAll_os _ _ _) (by kernel_rfl) (by kernel_rfl) (by kernel_rfl)
      (OpenSpec.preRow_of_cond 8 hx (by kernel_rfl) (fun k hk => by cases hk) (by kernel_rfl) (laid_met os))) ?_
  intro W base args ds gs before hval hW _ _ _ hL _ _
  exact contract H enc W base args ds gs before hval hW

theorem said : Rows.FnVaFieldTextsSaid :=
  OpenClaim.holds_of_cond 3 Tryz.f3 rfl rfl rfl rfl rfl rfl rfl ⟨rfl, rfl, rfl, rfl, rfl⟩ rfl rfl rfl rfl rfl named Tryz.func3 closedP
    instanced wrapped (fun os started H enc _ F => by rw [OpenClaim.pre_eq_preRow]; exact lifted os started H enc F)

/-- No parameter wants a stand-in; the program's own looks are told. -/
theorem plain (f : FuncId) (fn : Func) (hf : Tryz.pinned.checked.prog.funcNamed "given.example/pub-anacrusis/laws.FnVaFieldTexts" = some f) (hfn : Tryz.pinned.checked.prog.funcs[f]? = some fn) :
    true = Tryz.pinned.checked.prog.looks [] ∧ ∀ (j : Nat) t, fn.params[j]? = some t → Tryz.pinned.checked.prog.wantsStandIn t = false := by
  obtain rfl : f = 3 := Option.some.inj (named.symm.trans hf) |>.symm
  obtain rfl : fn = Tryz.f3 := (Option.some.inj (Tryz.func3.symm.trans hfn)).symm
  refine ⟨by kernel_rfl, fun j t ht => ?_⟩
  rw [Tryz.params3] at ht
  have ht2 : t = 5 ∨ t = 22 ∨ t = 4 := by simpa using Array.mem_of_getElem? ht
  rcases ht2 with rfl | rfl | rfl
  · exact (show Tryz.prog.wantsStandIn 5 = false by kernel_rfl)
  · exact (show Tryz.prog.wantsStandIn 22 = false by kernel_rfl)
  · exact (show Tryz.prog.wantsStandIn 4 = false by kernel_rfl)

/-- The card. -/
theorem card : Rows.FnVaFieldTextsCardSaid :=
  Claim7.holds_tied_plain_at .later [] _ _ _ _ said (fun _ h => by cases h) (by kernel_rfl) (fun _ h => by cases h) fnVaFieldTexts_row_tie rfl ⟨rfl, rfl⟩ (by kernel_rfl) rfl plain (goesB _ rfl)
end Go.Proofs.YtipoenpakjpokaaGreatDoor.fnVaFieldTexts
