/- A parameter that is a float of the type codes 6 and 7 is its type code and its IEEE 754 bytes, the lowest first, and is read back; so is a result: the law holds at every input. There are no conditions. -/
import Derived.Test.YtnnckokoaenolaaGreatDoorClose
import Derived.Test.YtnnckokoaenolaaGreatDoorLawFloats
import Derived.Test.YtnnckokoaenolaaGreatDoorGoes
import Derived.Test.YtnnckokoaenolaaGreatDoorFactsFloats
import Derived.Laws.Cover2
set_option linter.unusedVariables false
set_option linter.unusedSimpArgs false
namespace Go.Proofs.YtnnckokoaenolaaGreatDoor.fnVaFieldFloats
open Go.ChangeShapes Go.WideShapes Go.ChangeAt Go.RowKit

set_option maxRecDepth 100000 in
theorem contract (H : Type) (enc : TypeId × Value → H) (W : World) (base : Nat) (args : Array Value) (ds gs : List (DataW H)) (before : List MemPlace)
    (hval : ∀ (j : Nat) t v, Tryz.f6.params[j]? = some t → args[j]? = some v → Value.okWide Tryz.prog W .any base t v)
    (hW : DataW.Whole enc Tryz.prog Tryz.f6.params.toList Rows.fnVaFieldFloatsSpec.vars false W args.toList ds gs before) :
    Calls Tryz.prog 6 args W fun e W' => ∃ v, e = .returned v ∧ Rows.fnVaFieldFloatsSpec.post enc Tryz.prog Tryz.f6 false true false false W args v W' := by
  have hW' := hW
  obtain ⟨p, q, hA0, hV, rfl, hfz, hnd⟩ := hW
  have hA : DataW.TrodAll enc Tryz.prog W 0 (fun _ => true) true Tryz.f6.params.toList args.toList ds p := hA0
  rw [Tryz.params6] at hA hval
  obtain ⟨v0, v1, d0, d1, p0, p1, rfl, rfl, rfl, h0, h1⟩ := trodAll_two hA
  obtain ⟨s, rfl, rfl, rfl⟩ := open_bool Tryz.underlying4 (hval 0 4 v0 rfl rfl) h0
  obtain ⟨x, rfl, rfl, rfl, hwf1⟩ := open_float Tryz.underlying22 (hval 1 22 v1 rfl rfl) h1
  have hr1 : x < 2 ^ 64 := by simpa [Lit.wf] using hwf1
  clear hA0
  refine (lawFloats W s x hr1).mono fun e W' ⟨he, hb⟩ => ?_
  subst he
  obtain ⟨g1, g2, g3, g4, rfl⟩ : ∃ g1 g2 g3 g4, gs = [g1, g2, g3, g4] := by
    match gs, hV with
    | [g1, g2, g3, g4], _ => exact ⟨g1, g2, g3, g4, rfl⟩
    | [], hV => simp [DataW.TrodVars, Rows.fnVaFieldFloatsSpec] at hV
    | [_], hV => obtain ⟨_, _, _, _, _, _, _, _, _, _, h, _⟩ := hV; simp [DataW.TrodVars] at h
    | [_, _], hV => obtain ⟨_, _, _, _, _, _, _, _, _, _, ⟨_, _, _, _, _, _, _, _, _, _, h, _⟩, _⟩ := hV; simp [DataW.TrodVars] at h
    | [_, _, _], hV => obtain ⟨_, _, _, _, _, _, _, _, _, _, ⟨_, _, _, _, _, _, _, _, _, _, ⟨_, _, _, _, _, _, _, _, _, _, h, _⟩, _⟩, _⟩ := hV; simp [DataW.TrodVars] at h
    | _ :: _ :: _ :: _ :: _ :: _, hV => obtain ⟨_, _, _, _, _, _, _, _, _, _, ⟨_, _, _, _, _, _, _, _, _, _, ⟨_, _, _, _, _, _, _, _, _, _, ⟨_, _, _, _, _, _, _, _, _, _, h, _⟩, _⟩, _⟩, _⟩ := hV; simp [DataW.TrodVars] at h
  have hV' := intVars Tryz.underlying3 hb intGlobals hV
  have mkA : ∀ sp : Nat → Bool, DataW.TrodAll enc Tryz.prog W' 0 sp true Tryz.f6.params.toList [.bool s, .float .f64 x] [.lit (.bool s), .lit (.float .f64 x)] [] := fun sp => by
    rw [Tryz.params6]
    exact trodAll_cons_mk (shut_bool Tryz.underlying4 _) (trodAll_cons_mk (shut_float Tryz.underlying22 hwf1) trodAll_mk0)
  exact ⟨_, rfl, post_of_below (pa := []) (pv := q) hW' (fun _ _ _ => trodAll_cons_mk (shut_bool Tryz.underlying4 _) trodAll_mk0) (fun sp _ => mkA sp) (fun sp _ => hV' sp) (by simp) hb
    (ok_one (by kernel_rfl) rfl (okWide_bool_mk Tryz.underlying4 _))⟩

theorem laid_met (os : Os) : laidMet Tryz.prog Rows.fnVaFieldFloatsRow.laid ((World.laidAll Tryz.prog os Rows.fnVaFieldFloatsRow.laid).forCall (fun _ _ => 0) ⟨#[], #[.bool false, .float .f64 0], []⟩).memory :=
  laidMet_laidAll _ (by kernel_rfl) (by kernel_rfl)
theorem reads (os : Os) {H : Type} (enc : TypeId × Value → H) : ∃ places gs, DataW.whole enc Tryz.prog ((World.laidAll Tryz.prog os Rows.fnVaFieldFloatsRow.laid).forCall (fun _ _ => 0) ⟨#[], #[.bool false, .float .f64 0], []⟩).memory Tryz.f6.params.toList Rows.fnVaFieldFloatsSpec.vars false #[Value.bool false, Value.float .f64 0].toList 8 = some ([.lit (.bool false), .lit (.float .f64 0)], gs, places) :=
  ⟨[.cell 2 0, .cell 7 0, .cell 5 0, .cell 6 0], [.lit (.int .i64 40), .lit (.int .i64 40), .lit (.int .i64 12), .lit (.int .i64 80)], by kernel_rfl⟩

set_option maxRecDepth 100000 in
theorem lifted (os : Os) (started : os.Started) (H : Type) (enc : TypeId × Value → H) (F : Stop.Interp) :
    ReturnsInHanded {} Tryz.checked os 6 .any ((OpenSpec.ofChange Rows.fnVaFieldFloatsSpec).preRow enc Tryz.prog Tryz.f6 Rows.fnVaFieldFloatsRow.domain false Rows.fnVaFieldFloatsRow.laid) (((OpenSpec.ofChange Rows.fnVaFieldFloatsSpec).at F).post enc Tryz.prog Tryz.f6 false true false false) := by
  obtain ⟨places, gs, hx⟩ := reads os enc
  refine returnsInHanded_of_row (C := Tryz.checked) (s := OpenSpec.ofChange Rows.fnVaFieldFloatsSpec) own started (by kernel_rfl) Tryz.func6
    (witness_row_at (enc := enc) (C := Tryz.checked) false (World.laidAll Tryz.prog os Rows.fnVaFieldFloatsRow.laid) #[.bool false, .float .f64 0] (World.laidAll_os _ _ _) (by kernel_rfl) (by kernel_rfl) (by kernel_rfl)
      (OpenSpec.preRow_of_cond 8 hx (by kernel_rfl) (fun k hk => by cases hk) (by kernel_rfl) (laid_met os))) ?_
  intro W base args ds gs before hval hW _ _ _ hL _ _
  exact contract H enc W base args ds gs before hval hW

theorem said : Rows.FnVaFieldFloatsSaid :=
  OpenClaim.holds_of_cond 6 Tryz.f6 rfl rfl rfl rfl rfl rfl rfl ⟨rfl, rfl, rfl, rfl, rfl⟩ rfl rfl rfl rfl rfl named Tryz.func6 closedP
    instanced wrapped (fun os started H enc _ F => by rw [OpenClaim.pre_eq_preRow]; exact lifted os started H enc F)

/-- No parameter wants a stand-in; the program's own looks are told. -/
theorem plain (f : FuncId) (fn : Func) (hf : Tryz.pinned.checked.prog.funcNamed "given.example/pub-anacrusis/laws.FnVaFieldFloats" = some f) (hfn : Tryz.pinned.checked.prog.funcs[f]? = some fn) :
    true = Tryz.pinned.checked.prog.looks [] ∧ ∀ (j : Nat) t, fn.params[j]? = some t → Tryz.pinned.checked.prog.wantsStandIn t = false := by
  obtain rfl : f = 6 := Option.some.inj (named.symm.trans hf) |>.symm
  obtain rfl : fn = Tryz.f6 := (Option.some.inj (Tryz.func6.symm.trans hfn)).symm
  refine ⟨by kernel_rfl, fun j t ht => ?_⟩
  rw [Tryz.params6] at ht
  have ht2 : t = 4 ∨ t = 22 := by simpa using Array.mem_of_getElem? ht
  rcases ht2 with rfl | rfl
  · exact (show Tryz.prog.wantsStandIn 4 = false by kernel_rfl)
  · exact (show Tryz.prog.wantsStandIn 22 = false by kernel_rfl)

/-- The card. -/
theorem card : Rows.FnVaFieldFloatsCardSaid :=
  Claim7.holds_tied_plain_at .later [] _ _ _ _ said (fun _ h => by cases h) (by kernel_rfl) (fun _ h => by cases h) fnVaFieldFloats_row_tie rfl ⟨rfl, rfl⟩ (by kernel_rfl) rfl plain (goesB _ rfl)
end Go.Proofs.YtnnckokoaenolaaGreatDoor.fnVaFieldFloats
