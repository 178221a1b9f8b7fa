/- What a row's laid variables say: the thresholds of math/big. -/
import Derived.Test.YthocmhkafgpgbaaGreatDoorM01
import Derived.Test.YthocmhkafgpgbaaGreatDoorM08
set_option linter.unusedVariables false
set_option linter.unusedSimpArgs false
namespace Go.Proofs.YthocmhkafgpgbaaGreatDoor
open Go.ChangeShapes Go.WideShapes Go.ChangeAt Go.RowKit
theorem laidInt {W : World} : ∀ {l : List (String × DataW Unit)} {ps : List MemPlace}, DataW.LaidVars Tryz.prog W l ps → ∀ (n : String) (z : Int) (g : Nat), (n, DataW.lit (.int .i64 z)) ∈ l →
  Tryz.prog.globalNamed n = some g → (Tryz.prog.globals[g]?).map (·.type) = some 3 → W.cell? ⟨g, 0, none⟩ = some (.int .i64 z) ∧ g < W.heap.size
 | [], _, _, _, _, _, hm, _, _ => by cases hm
 | (n', d') :: r, ps, h, n, z, g, hm, hn, ht => by
  obtain ⟨g', t, cs, fuel, p, q, h1, h2, h3, h4, h5, _⟩ := h
  rcases List.mem_cons.1 hm with e | e
  ·cases e
   obtain rfl : g' = g := Option.some.inj (h1.symm.trans hn)
   obtain rfl : 3 = t := Option.some.inj (ht.symm.trans h2)
   obtain ⟨z', hc, hx, hw⟩ := DataW.trod_int Tryz.underlying3 h4
   have hz : z' = z := by
    have := congrArg Prod.fst hx
    simpa using this.symm
   subst hz
   unfold World.var? at h3
   simp only [h1, Option.bind_some] at h3
   cases hg : W.heap[g']? with
   | none => simp [hg] at h3
   | some o =>
    rw [hg] at h3
    refine ⟨?_, (Array.getElem?_eq_some_iff.1 hg).1⟩
    cases o with
    | cells cs' t' fr =>
     simp only [Option.some.injEq] at h3
     subst h3
     unfold World.cell?
     rw [hg]
     have : cs'[0]? = some (.int .i64 z') := by
      rw [← Array.getElem?_toList, hc]; rfl
     simp [this]
    | _ => simp at h3
  ·exact laidInt h5 n z g e hn ht
theorem thrOf {W : World} {l : List (String × DataW Unit)} (h : laidMet Tryz.prog l W)
  (h1 : ("given.example/pub-anacrusis/pub/bigall.divRecursiveThreshold", DataW.lit (.int .i64 40)) ∈ l) (h2 : ("given.example/pub-anacrusis/pub/bigall.karatsubaThreshold", DataW.lit (.int .i64 40)) ∈ l)
  (h3 : ("given.example/pub-anacrusis/pub/bigall.basicSqrThreshold", DataW.lit (.int .i64 12)) ∈ l) (h4 : ("given.example/pub-anacrusis/pub/bigall.karatsubaSqrThreshold", DataW.lit (.int .i64 80)) ∈ l) : Thr W ∧ GL ≤ W.heap.size := by
 obtain ⟨ps, hv, _⟩ := h
 have a1 := laidInt hv _ _ 2 h1 (by kernel_rfl) (by kernel_rfl)
 have a2 := laidInt hv _ _ 7 h2 (by kernel_rfl) (by kernel_rfl)
 have a3 := laidInt hv _ _ 5 h3 (by kernel_rfl) (by kernel_rfl)
 have a4 := laidInt hv _ _ 6 h4 (by kernel_rfl) (by kernel_rfl)
 refine ⟨⟨a1.1, a2.1, a3.1, a4.1⟩, ?_⟩
 have b1 := a1.2
 have b2 := a2.2
 have b3 := a3.2
 have b4 := a4.2
 unfold GL
 omega
end Go.Proofs.YthocmhkafgpgbaaGreatDoor
