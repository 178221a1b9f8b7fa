/- What every card of the seat asks. -/
import Derived.Test.YtipoenpakjpokaaGreatDoorCards
import Derived.Test.YtipoenpakjpokaaGreatDoorTie
import Derived.Test.YtipoenpakjpokaaGreatDoorBase
import Derived.WalkKit
import Derived.ProofKit
import Derived.OpenShut
import Derived.Deep.DeepHandedRow
import Derived.WalkSmall
import Derived.Lay
set_option linter.unusedVariables false
set_option linter.unusedSimpArgs false
namespace Go.Proofs.YtipoenpakjpokaaGreatDoor
open Go.ChangeShapes Go.WideShapes Go.ChangeAt Go.RowKit

theorem own : ownKnob Tryz.prog.godebug = none := by kernel_rfl

section
variable {H : Type} {enc : TypeId × Value → H} {P : Program}
/-- Variables that are ints read on as they read. -/
theorem intVars {ti : TypeId} (hti : P.underlying ti = some (.int .i64)) {W W' : World} (hb : Below W.heap.size W W') : ∀ {ns : List String} {gs : List (DataW H)} {ps : List MemPlace} {sp : Nat → Bool},
    (∀ n ∈ ns, ∃ g, P.globalNamed n = some g ∧ (P.globals[g]?).map (·.type) = some ti) → DataW.TrodVars enc P W sp ns gs ps → ∀ sp' : Nat → Bool, DataW.TrodVars enc P W' sp' ns gs ps
  | [], [], _, _, _, h, _ => h
  | [], _ :: _, _, _, _, h, _ => by simp [DataW.TrodVars] at h
  | _ :: _, [], _, _, _, h, _ => by simp [DataW.TrodVars] at h
  | n :: ns, d :: gs, ps, sp, hn, h, sp' => by
    obtain ⟨g, t, cs, fuel, p, q, h1, h2, h3, h4, h5, h6⟩ := h
    obtain ⟨g', e1, e2⟩ := hn n (by simp)
    obtain rfl : g' = g := Option.some.inj (e1.symm.trans h1)
    obtain rfl : ti = t := Option.some.inj (e2.symm.trans h2)
    obtain ⟨z, hc, hx, hw⟩ := DataW.trod_int hti h4
    injection hx with hx1 hx2
    subst hx1 hx2
    have hlt : g' < W.heap.size := by
      unfold World.var? at h3
      simp only [h1, Option.bind_some] at h3
      cases hg : W.heap[g']? with
      | none => simp [hg] at h3
      | some o => exact (Array.getElem?_eq_some_iff.1 hg).1
    refine ⟨g', ti, cs, 1, [], q, h1, h2, var?_below hb h1 hlt h3, by rw [hc]; exact trod_int_mk 0 hti hw, intVars hti hb (fun m hm => hn m (by simp [hm])) h5 sp', h6⟩

/-- A call that leaves what was there as it was keeps what the arguments and the variables tell. -/
theorem post_of_below {f : Func} {s : ChangeSpec} {apart fresh handsOn again : Bool} {W W' : World} {args : Array Value} {v : Value} {ds gs : List (DataW H)} {before pa pv : List MemPlace}
    (hW : DataW.Whole enc P f.params.toList s.vars apart W args.toList ds gs before)
    (hres : ∀ (b : Nat) (sp : Nat → Bool) (hd : Bool), DataW.TrodAll enc P W' b sp hd f.resultTypes.toList (v.resultList f.resultTypes.size) (s.fn H (ds ++ gs)).results [])
    (hargs : ∀ sp : Nat → Bool, (∀ p ∈ before, sp p.block = true) → DataW.TrodAll enc P W' 0 sp true f.params.toList args.toList (s.fn H (ds ++ gs)).args pa)
    (hvars : ∀ sp : Nat → Bool, (∀ p ∈ before, sp p.block = true) → DataW.TrodVars enc P W' sp s.vars (s.fn H (ds ++ gs)).vars pv)
    (hps : before = pa ++ pv) (hb : Below W.heap.size W W')
    (hok : ∀ (j : Nat) (t : TypeId) (r : Value), f.resultTypes[j]? = some t → (v.resultList f.resultTypes.size)[j]? = some r → Value.okWide P W' .any 0 t r) :
    s.post enc P f apart fresh handsOn again W args v W' := by
  have hold : ∀ p ∈ before, (fun b => decide (b < W.heap.size)) p.block = true := fun p hp => by simpa using hW.lt p hp
  have hlt := hW.lt
  refine ⟨ds, gs, before, [], pa, pv, hW, hres _ _ _, hargs _ hold, hvars _ hold, World.keptBut_mono (fun p hp => ⟨hp, ?_⟩) (hb.frame (· ∈ before)), fun _ => ?_⟩
  · rw [hps, List.mem_append] at hp
    exact Or.inr hp
  · obtain ⟨_, _, _, _, _, hz, hn⟩ := hW
    refine ⟨hok, _, _, ([] ++ pa) ++ pv, ⟨[] ++ pa, pv, trodAll_append (hargs _ (fun _ _ => rfl)) (hres _ _ _), hvars _ (fun _ _ => rfl), rfl, ?_, ?_⟩, ?_⟩
    · intro b off hp
      have hp' : MemPlace.cell b off ∈ before := by rw [hps]; simpa using hp
      rw [hb.frozen (p := ⟨b, off, none⟩) (hlt _ hp')]
      exact hz b off hp'
    · intro ha
      have := hn ha
      rw [hps] at this
      simpa using this
    · intro p hp _
      rw [hps]
      simpa using hp
end

/-- The listed variables are ints. -/
theorem intGlobals : ∀ n ∈ ["given.example/pub-anacrusis/pub/bigall.divRecursiveThreshold", "given.example/pub-anacrusis/pub/bigall.karatsubaThreshold", "given.example/pub-anacrusis/pub/bigall.basicSqrThreshold", "given.example/pub-anacrusis/pub/bigall.karatsubaSqrThreshold"],
    ∃ g, Tryz.prog.globalNamed n = some g ∧ (Tryz.prog.globals[g]?).map (·.type) = some 3 := by
  intro n hn
  simp only [List.mem_cons, List.mem_nil_iff, or_false] at hn
  rcases hn with rfl | rfl | rfl | rfl
  · exact ⟨2, by kernel_rfl, by kernel_rfl⟩
  · exact ⟨7, by kernel_rfl, by kernel_rfl⟩
  · exact ⟨5, by kernel_rfl, by kernel_rfl⟩
  · exact ⟨6, by kernel_rfl, by kernel_rfl⟩
end Go.Proofs.YtipoenpakjpokaaGreatDoor
