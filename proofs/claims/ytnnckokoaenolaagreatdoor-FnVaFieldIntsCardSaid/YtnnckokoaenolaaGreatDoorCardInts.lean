/- A parameter that is an integer of the type codes 1 to 4 is its type code and its bytes, the lowest first, and is read back; so is a result: the law holds at every input. There are no conditions. -/
import Derived.Test.YtnnckokoaenolaaGreatDoorClose
import Derived.Test.YtnnckokoaenolaaGreatDoorLawInts
import Derived.Test.YtnnckokoaenolaaGreatDoorGoes
import Derived.Test.YtnnckokoaenolaaGreatDoorFactsInts
import Derived.Laws.Cover2
set_option linter.unusedVariables false
set_option linter.unusedSimpArgs false
namespace Go.Proofs.YtnnckokoaenolaaGreatDoor.fnVaFieldInts
open Go.ChangeShapes Go.WideShapes Go.ChangeAt Go.RowKit

set_option maxRecDepth 100000 in
theorem contract (H : Type) (enc : TypeId × Value → H) (W : World) (base : Nat) (args : Array Value) (ds gs : List (DataW H)) (before : List MemPlace)
    (hval : ∀ (j : Nat) t v, Tryz.f5.params[j]? = some t → args[j]? = some v → Value.okWide Tryz.prog W .any base t v)
    (hW : DataW.Whole enc Tryz.prog Tryz.f5.params.toList Rows.fnVaFieldIntsSpec.vars false W args.toList ds gs before) :
    Calls Tryz.prog 5 args W fun e W' => ∃ v, e = .returned v ∧ Rows.fnVaFieldIntsSpec.post enc Tryz.prog Tryz.f5 false true false false W args v W' := by
  have hW' := hW
  obtain ⟨p, q, hA0, hV, rfl, hfz, hnd⟩ := hW
  have hA : DataW.TrodAll enc Tryz.prog W 0 (fun _ => true) true Tryz.f5.params.toList args.toList ds p := hA0
  rw [Tryz.params5] at hA hval
  obtain ⟨v0, v1, d0, d1, p0, p1, rfl, rfl, rfl, h0, h1⟩ := trodAll_two hA
  obtain ⟨a, rfl, rfl, rfl, hwf0⟩ := open_int Tryz.underlying5 (hval 0 5 v0 rfl rfl) h0
  have hr0 : (0 : Int) ≤ a ∧ a ≤ 255 := by simpa [Lit.wf, IntKind.min, IntKind.max, IntKind.signed, IntKind.bits] using hwf0
  obtain ⟨n, rfl, rfl, rfl, hwf1⟩ := open_int Tryz.underlying2 (hval 1 2 v1 rfl rfl) h1
  have hr1 : (-9223372036854775808 : Int) ≤ n ∧ n ≤ 9223372036854775807 := by simpa [Lit.wf, IntKind.min, IntKind.max, IntKind.signed, IntKind.bits] using hwf1
  clear hA0
  refine (lawInts W a n hr0.1 hr0.2 hr1.1 hr1.2).mono fun e W' ⟨he, hb⟩ => ?_
  subst he
  obtain ⟨g1, g2, g3, g4, rfl⟩ : ∃ g1 g2 g3 g4, gs = [g1, g2, g3, g4] := by
    match gs, hV with
    | [g1, g2, g3, g4], _ => exact ⟨g1, g2, g3, g4, rfl⟩
    | [], hV => simp [DataW.TrodVars, Rows.fnVaFieldIntsSpec] at hV
    | [_], hV => obtain ⟨_, _, _, _, _, _, _, _, _, _, h, _⟩ := hV; simp [DataW.TrodVars] at h
    | [_, _], hV => obtain ⟨_, _, _, _, _, _, _, _, _, _, ⟨_, _, _, _, _, _, _, _, _, _, h, _⟩, _⟩ := hV; simp [DataW.TrodVars] at h
    | [_, _, _], hV => obtain ⟨_, _, _, _, _, _, _, _, _, _, ⟨_, _, _, _, _, _, _, _, _, _, ⟨_, _, _, _, _, _, _, _, _, _, h, _⟩, _⟩, _⟩ := hV; simp [DataW.TrodVars] at h
    | _ :: _ :: _ :: _ :: _ :: _, hV => obtain ⟨_, _, _, _, _, _, _, _, _, _, ⟨_, _, _, _, _, _, _, _, _, _, ⟨_, _, _, _, _, _, _, _, _, _, ⟨_, _, _, _, _, _, _, _, _, _, h, _⟩, _⟩, _⟩, _⟩ := hV; simp [DataW.TrodVars] at h
  have hV' := intVars Tryz.underlying3 hb intGlobals hV
  have mkA : ∀ sp : Nat → Bool, DataW.TrodAll enc Tryz.prog W' 0 sp true Tryz.f5.params.toList [.int .u8 a, .int .i64 n] [.lit (.int .u8 a), .lit (.int .i64 n)] [] := fun sp => by
    rw [Tryz.params5]
    exact trodAll_cons_mk (shut_int Tryz.underlying5 hwf0) (trodAll_cons_mk (shut_int Tryz.underlying2 hwf1) trodAll_mk0)
  exact ⟨_, rfl, post_of_below (pa := []) (pv := q) hW' (fun _ _ _ => trodAll_cons_mk (shut_bool Tryz.underlying4 _) trodAll_mk0) (fun sp _ => mkA sp) (fun sp _ => hV' sp) (by simp) hb
    (ok_one (by kernel_rfl) rfl (okWide_bool_mk Tryz.underlying4 _))⟩

theorem laid_met (os : Os) : laidMet Tryz.prog Rows.fnVaFieldIntsRow.laid ((World.laidAll Tryz.prog os Rows.fnVaFieldIntsRow.laid).forCall (fun _ _ => 0) ⟨#[], #[.int .u8 0, .int .i64 0], []⟩).memory :=
  laidMet_laidAll _ (by kernel_rfl) (by kernel_rfl)
theorem reads (os : Os) {H : Type} (enc : TypeId × Value → H) : ∃ places gs, DataW.whole enc Tryz.prog ((World.laidAll Tryz.prog os Rows.fnVaFieldIntsRow.laid).forCall (fun _ _ => 0) ⟨#[], #[.int .u8 0, .int .i64 0], []⟩).memory Tryz.f5.params.toList Rows.fnVaFieldIntsSpec.vars false #[Value.int .u8 0, Value.int .i64 0].toList 8 = some ([.lit (.int .u8 0), .lit (.int .i64 0)], gs, places) :=
  ⟨[.cell 2 0, .cell 7 0, .cell 5 0, .cell 6 0], [.lit (.int .i64 40), .lit (.int .i64 40), .lit (.int .i64 12), .lit (.int .i64 80)], by kernel_rfl⟩

set_option maxRecDepth 100000 in
theorem lifted (os : Os) (started : os.Started) (H : Type) (enc : TypeId × Value → H) (F : Stop.Interp) :
    ReturnsInHanded {} Tryz.checked os 5 .any ((OpenSpec.ofChange Rows.fnVaFieldIntsSpec).preRow enc Tryz.prog Tryz.f5 Rows.fnVaFieldIntsRow.domain false Rows.fnVaFieldIntsRow.laid) (((OpenSpec.ofChange Rows.fnVaFieldIntsSpec).at F).post enc Tryz.prog Tryz.f5 false true false false) := by
  obtain ⟨places, gs, hx⟩ := reads os enc
  refine returnsInHanded_of_row (C := Tryz.checked) (s := OpenSpec.ofChange Rows.fnVaFieldIntsSpec) own started (by kernel_rfl) Tryz.func5
    (witness_row_at (enc := enc) (C := Tryz.checked) false (World.laidAll Tryz.prog os Rows.fnVaFieldIntsRow.laid) #[.int .u8 0, .int .i64 0] (World.laidAll_os _ _ _) (by kernel_rfl) (by kernel_rfl) (by kernel_rfl)
      (OpenSpec.preRow_of_cond 8 hx (by kernel_rfl) (fun k hk => by cases hk) (by kernel_rfl) (laid_met os))) ?_
  intro W base args ds gs before hval hW _ _ _ hL _ _
  exact contract H enc W base args ds gs before hval hW

theorem said : Rows.FnVaFieldIntsSaid :=
  OpenClaim.holds_of_cond 5 Tryz.f5 rfl rfl rfl rfl rfl rfl rfl ⟨rfl, rfl, rfl, rfl, rfl⟩ rfl rfl rfl rfl rfl named Tryz.func5 closedP
    instanced wrapped (fun os started H enc _ F => by rw [OpenClaim.pre_eq_preRow]; exact lifted os started H enc F)

/-- No parameter wants a stand-in; the program's own looks are told. -/
theorem plain (f : FuncId) (fn : Func) (hf : Tryz.pinned.checked.prog.funcNamed "given.example/pub-anacrusis/laws.FnVaFieldInts" = some f) (hfn : Tryz.pinned.checked.prog.funcs[f]? = some fn) :
    true = Tryz.pinned.checked.prog.looks [] ∧ ∀ (j : Nat) t, fn.params[j]? = some t → Tryz.pinned.checked.prog.wantsStandIn t = false := by
  obtain rfl : f = 5 := Option.some.inj (named.symm.trans hf) |>.symm
  obtain rfl : fn = Tryz.f5 := (Option.some.inj (Tryz.func5.symm.trans hfn)).symm
  refine ⟨by kernel_rfl, fun j t ht => ?_⟩
  rw [Tryz.params5] at ht
  have ht2 : t = 5 ∨ t = 2 := by simpa using Array.mem_of_getElem? ht
  rcases ht2 with rfl | rfl
  · exact (show Tryz.prog.wantsStandIn 5 = false by kernel_rfl)
  · exact (show Tryz.prog.wantsStandIn 2 = false by kernel_rfl)

/-- The card. -/
theorem card : Rows.FnVaFieldIntsCardSaid :=
  Claim7.holds_tied_plain_at .later [] _ _ _ _ said (fun _ h => by cases h) (by kernel_rfl) (fun _ h => by cases h) fnVaFieldInts_row_tie rfl ⟨rfl, rfl⟩ (by kernel_rfl) rfl plain (goesB _ rfl)
end Go.Proofs.YtnnckokoaenolaaGreatDoor.fnVaFieldInts
