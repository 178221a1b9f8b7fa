/- A parameter that is null is one byte, the code for null of its type code, and is read back as null: the law holds at every input. There are no conditions. -/
import Derived.Test.YtnnckokoaenolaaGreatDoorClose
import Derived.Test.YtnnckokoaenolaaGreatDoorLawNulls
import Derived.Test.YtnnckokoaenolaaGreatDoorGoes
import Derived.Test.YtnnckokoaenolaaGreatDoorFactsNulls
import Derived.Laws.Cover2
set_option linter.unusedVariables false
set_option linter.unusedSimpArgs false
namespace Go.Proofs.YtnnckokoaenolaaGreatDoor.fnVaFieldNulls
open Go.ChangeShapes Go.WideShapes Go.ChangeAt Go.RowKit

set_option maxRecDepth 100000 in
theorem contract (H : Type) (enc : TypeId × Value → H) (W : World) (base : Nat) (args : Array Value) (ds gs : List (DataW H)) (before : List MemPlace)
    (hval : ∀ (j : Nat) t v, Tryz.f4.params[j]? = some t → args[j]? = some v → Value.okWide Tryz.prog W .any base t v)
    (hW : DataW.Whole enc Tryz.prog Tryz.f4.params.toList Rows.fnVaFieldNullsSpec.vars false W args.toList ds gs before) :
    Calls Tryz.prog 4 args W fun e W' => ∃ v, e = .returned v ∧ Rows.fnVaFieldNullsSpec.post enc Tryz.prog Tryz.f4 false true false false W args v W' := by
  have hW' := hW
  obtain ⟨p, q, hA0, hV, rfl, hfz, hnd⟩ := hW
  have hA : DataW.TrodAll enc Tryz.prog W 0 (fun _ => true) true Tryz.f4.params.toList args.toList ds p := hA0
  rw [Tryz.params4] at hA hval
  obtain ⟨v0, d0, rfl, rfl, h0⟩ := trodAll_one hA
  obtain ⟨c, rfl, rfl, rfl, hwf0⟩ := open_int Tryz.underlying5 (hval 0 5 v0 rfl rfl) h0
  have hr0 : (0 : Int) ≤ c ∧ c ≤ 255 := by simpa [Lit.wf, IntKind.min, IntKind.max, IntKind.signed, IntKind.bits] using hwf0
  clear hA0
  refine (lawNulls W c hr0.1 hr0.2).mono fun e W' ⟨he, hb⟩ => ?_
  subst he
  obtain ⟨g1, g2, g3, g4, rfl⟩ : ∃ g1 g2 g3 g4, gs = [g1, g2, g3, g4] := by
    match gs, hV with
    | [g1, g2, g3, g4], _ => exact ⟨g1, g2, g3, g4, rfl⟩
    | [], hV => simp [DataW.TrodVars, Rows.fnVaFieldNullsSpec] at hV
    | [_], hV => obtain ⟨_, _, _, _, _, _, _, _, _, _, h, _⟩ := hV; simp [DataW.TrodVars] at h
    | [_, _], hV => obtain ⟨_, _, _, _, _, _, _, _, _, _, ⟨_, _, _, _, _, _, _, _, _, _, h, _⟩, _⟩ := hV; simp [DataW.TrodVars] at h
    | [_, _, _], hV => obtain ⟨_, _, _, _, _, _, _, _, _, _, ⟨_, _, _, _, _, _, _, _, _, _, ⟨_, _, _, _, _, _, _, _, _, _, h, _⟩, _⟩, _⟩ := hV; simp [DataW.TrodVars] at h
    | _ :: _ :: _ :: _ :: _ :: _, hV => obtain ⟨_, _, _, _, _, _, _, _, _, _, ⟨_, _, _, _, _, _, _, _, _, _, ⟨_, _, _, _, _, _, _, _, _, _, ⟨_, _, _, _, _, _, _, _, _, _, h, _⟩, _⟩, _⟩, _⟩ := hV; simp [DataW.TrodVars] at h
  have hV' := intVars Tryz.underlying3 hb intGlobals hV
  have mkA : ∀ sp : Nat → Bool, DataW.TrodAll enc Tryz.prog W' 0 sp true Tryz.f4.params.toList [.int .u8 c] [.lit (.int .u8 c)] [] := fun sp => by
    rw [Tryz.params4]
    exact trodAll_cons_mk (shut_int Tryz.underlying5 hwf0) trodAll_mk0
  exact ⟨_, rfl, post_of_below (pa := []) (pv := q) hW' (fun _ _ _ => trodAll_cons_mk (shut_bool Tryz.underlying4 _) trodAll_mk0) (fun sp _ => mkA sp) (fun sp _ => hV' sp) (by simp) hb
    (ok_one (by kernel_rfl) rfl (okWide_bool_mk Tryz.underlying4 _))⟩

theorem laid_met (os : Os) : laidMet Tryz.prog Rows.fnVaFieldNullsRow.laid ((World.laidAll Tryz.prog os Rows.fnVaFieldNullsRow.laid).forCall (fun _ _ => 0) ⟨#[], #[.int .u8 0], []⟩).memory :=
  laidMet_laidAll _ (by kernel_rfl) (by kernel_rfl)
theorem reads (os : Os) {H : Type} (enc : TypeId × Value → H) : ∃ places gs, DataW.whole enc Tryz.prog ((World.laidAll Tryz.prog os Rows.fnVaFieldNullsRow.laid).forCall (fun _ _ => 0) ⟨#[], #[.int .u8 0], []⟩).memory Tryz.f4.params.toList Rows.fnVaFieldNullsSpec.vars false #[Value.int .u8 0].toList 8 = some ([.lit (.int .u8 0)], gs, places) :=
  ⟨[.cell 2 0, .cell 7 0, .cell 5 0, .cell 6 0], [.lit (.int .i64 40), .lit (.int .i64 40), .lit (.int .i64 12), .lit (.int .i64 80)], by kernel_rfl⟩

set_option maxRecDepth 100000 in
theorem lifted (os : Os) (started : os.Started) (H : Type) (enc : TypeId × Value → H) (F : Stop.Interp) :
    ReturnsInHanded {} Tryz.checked os 4 .any ((OpenSpec.ofChange Rows.fnVaFieldNullsSpec).preRow enc Tryz.prog Tryz.f4 Rows.fnVaFieldNullsRow.domain false Rows.fnVaFieldNullsRow.laid) (((OpenSpec.ofChange Rows.fnVaFieldNullsSpec).at F).post enc Tryz.prog Tryz.f4 false true false false) := by
  obtain ⟨places, gs, hx⟩ := reads os enc
  refine returnsInHanded_of_row (C := Tryz.checked) (s := OpenSpec.ofChange Rows.fnVaFieldNullsSpec) own started (by kernel_rfl) Tryz.func4
    (witness_row_at (enc := enc) (C := Tryz.checked) false (World.laidAll Tryz.prog os Rows.fnVaFieldNullsRow.laid) #[.int .u8 0] (World.laidAll_os _ _ _) (by kernel_rfl) (by kernel_rfl) (by kernel_rfl)
      (OpenSpec.preRow_of_cond 8 hx (by kernel_rfl) (fun k hk => by cases hk) (by kernel_rfl) (laid_met os))) ?_
  intro W base args ds gs before hval hW _ _ _ hL _ _
  exact contract H enc W base args ds gs before hval hW

theorem said : Rows.FnVaFieldNullsSaid :=
  OpenClaim.holds_of_cond 4 Tryz.f4 rfl rfl rfl rfl rfl rfl rfl ⟨rfl, rfl, rfl, rfl, rfl⟩ rfl rfl rfl rfl rfl named Tryz.func4 closedP
    instanced wrapped (fun os started H enc _ F => by rw [OpenClaim.pre_eq_preRow]; exact lifted os started H enc F)

/-- No parameter wants a stand-in; the program's own looks are told. -/
theorem plain (f : FuncId) (fn : Func) (hf : Tryz.pinned.checked.prog.funcNamed "given.example/pub-anacrusis/laws.FnVaFieldNulls" = some f) (hfn : Tryz.pinned.checked.prog.funcs[f]? = some fn) :
    true = Tryz.pinned.checked.prog.looks [] ∧ ∀ (j : Nat) t, fn.params[j]? = some t → Tryz.pinned.checked.prog.wantsStandIn t = false := by
  obtain rfl : f = 4 := Option.some.inj (named.symm.trans hf) |>.symm
  obtain rfl : fn = Tryz.f4 := (Option.some.inj (Tryz.func4.symm.trans hfn)).symm
  refine ⟨by kernel_rfl, fun j t ht => ?_⟩
  rw [Tryz.params4] at ht
  obtain rfl : t = 5 := by simpa using (Array.mem_of_getElem? ht)
  exact (show Tryz.prog.wantsStandIn 5 = false by kernel_rfl)

/-- The card. -/
theorem card : Rows.FnVaFieldNullsCardSaid :=
  Claim7.holds_tied_plain_at .later [] _ _ _ _ said (fun _ h => by cases h) (by kernel_rfl) (fun _ h => by cases h) fnVaFieldNulls_row_tie rfl ⟨rfl, rfl⟩ (by kernel_rfl) rfl plain (goesB _ rfl)
end Go.Proofs.YtnnckokoaenolaaGreatDoor.fnVaFieldNulls
