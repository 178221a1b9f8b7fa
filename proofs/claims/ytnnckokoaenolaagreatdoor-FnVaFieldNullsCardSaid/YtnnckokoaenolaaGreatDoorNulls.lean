/- Null of a type code: what FieldBytes lays, what FieldOf reads. -/
import Derived.Test.YtnnckokoaenolaaGreatDoorCodes
import Derived.Test.YtnnckokoaenolaaGreatDoorBools
set_option linter.unusedVariables false
set_option linter.unusedSimpArgs false
namespace Go.Proofs.YtnnckokoaenolaaGreatDoor
open Go.RowKit

set_option maxRecDepth 100000 in
theorem zzDataType_any (c : Int) (w : World) : Calls Tryz.prog 34 #[.int .u8 c] w fun e w' =>
    ((∃ n, e = .returned (.int .i64 n)) ∨ (∃ v, e = .panicked [{ v := .iface 9 v, recovered := false }])) ∧ w = w' := by
  go_enter Tryz.func34, Tryz.ntmps34
  go_wp2_with fail
  refine (dataType_any c w).mono ?_
  rintro e w1 ⟨⟨n, rfl⟩ | ⟨v, rfl⟩, rfl⟩
  · go_wp2_with fail
    go_ret
    exact ⟨.inl ⟨_, rfl⟩, rfl⟩
  · exact ⟨rfl, .inr ⟨_, rfl⟩, rfl⟩

set_option maxRecDepth 100000 in
theorem codeData_any (c : Int) (h0 : 0 ≤ c) (h1 : c ≤ 255) (w : World) : Calls Tryz.prog 10 #[.int .i64 c] w fun e w' =>
    ∃ x f, e = .returned (.tuple #[.int .i64 x, .int .i64 f]) ∧ Below w.heap.size w w' := by
  have hmf : ∀ (fn : Fn) (first cap : Array Value) (w : World), (Instr.makeFunc fn first cap).run Tryz.prog w = .ok (.func fn first cap) w := fun _ _ _ _ => rfl
  have htc : IntKind.u8.wrap c = c := by simp [IntKind.wrap, IntKind.bits, IntKind.signed]; omega
  go_enter_defers Tryz.func10, Tryz.ntmps10
  go_wp2_with fail
  refine (zzDataType_any c _).mono ?_
  rintro e w1 ⟨⟨n, rfl⟩ | ⟨v, rfl⟩, rfl⟩
  · go_wp2_with fail
    refine leaves_cons (by simp) rfl ?_
    refine (cdIdle _ _ _).mono ?_
    rintro e u w7 ⟨rfl, rfl, rfl⟩
    refine ⟨.tuple #[.int .i64 n, .int .i64 0], ?_, _, _, rfl, ?_⟩
    · simp [results, Tryz.results10, asAddr, go_sem]
    · exact ((Below.refl _ w).alloc (Nat.le_refl _) _).alloc (by simp) _
  · refine leaves_cons (by simp) rfl ?_
    refine (cdCatch ⟨w.heap.size, 0, none⟩ ⟨w.heap.size + 1, 0, none⟩ 0 0 _ _ [] _ (by simp [go_sem]) (by simp [go_sem]) (by simp [go_sem]) (by simp [go_sem]) (by simp)).mono ?_
    rintro e u w7 ⟨rfl, rfl, rfl⟩
    refine ⟨.tuple #[.int .i64 0, .int .i64 2], ?_, _, _, rfl, ?_⟩
    · simp [results, Tryz.results10, asAddr, go_sem]
    · exact ((((Below.refl _ w).alloc (Nat.le_refl _) _).alloc (by simp) _).setCell (by simp) _).setCell (by simp) _


set_option maxRecDepth 100000 in
theorem zzType_any (c : Int) (hc : c ≠ 28) (w : World) : Calls Tryz.prog 35 #[.int .u8 c] w fun e w' =>
    ∃ b1 b2 b3 n, e = .returned (.tuple #[.bool b1, .bool b2, .bool b3, .bool true, .int .u8 (nullCode c), .int .u8 n]) ∧ w = w' := by
  go_enter Tryz.func35, Tryz.ntmps35
  go_wp2_with fail
  refine (isLob_any c w).mono ?_
  rintro e w1 ⟨b1, rfl, rfl⟩
  go_wp2_with fail
  refine (isVar_any c w).mono ?_
  rintro e w1 ⟨b2, rfl, rfl⟩
  go_wp2_with fail
  refine (isDec_any c w).mono ?_
  rintro e w1 ⟨b3, rfl, rfl⟩
  go_wp2_with fail
  refine (supportNull_any c hc w).mono ?_
  rintro e w1 ⟨rfl, rfl⟩
  go_wp2_with fail
  refine (nullValue_any c w).mono ?_
  rintro e w1 ⟨rfl, rfl⟩
  go_wp2_with fail
  refine (encTc_any c w).mono ?_
  rintro e w1 ⟨n, rfl, rfl⟩
  go_wp2_with fail
  exact ⟨rfl, .tuple #[.bool b1, .bool b2, .bool b3, .bool true, .int .u8 (nullCode c), .int .u8 n], by simp [results, Tryz.results35], b1, b2, b3, n, rfl, rfl⟩

set_option maxRecDepth 100000 in
theorem codeKinds_any (c : Int) (hc : c ≠ 28) (h0 : 0 ≤ c) (h1 : c ≤ 255) (w : World) : Calls Tryz.prog 11 #[.int .i64 c] w fun e w' =>
    ∃ b1 b2 b3 n, e = .returned (.tuple #[.bool b1, .bool b2, .bool b3, .bool true, .int .i64 (nullCode c), .int .i64 n]) ∧ w = w' := by
  have htc : IntKind.u8.wrap c = c := by simp [IntKind.wrap, IntKind.bits, IntKind.signed]; omega
  have hr := nullCode_range h0 h1
  have hn : IntKind.i64.wrap (nullCode c) = nullCode c := by simp [IntKind.wrap, IntKind.bits, IntKind.signed]; omega
  go_enter Tryz.func11, Tryz.ntmps11
  go_wp2_with fail
  refine (zzType_any c hc w).mono ?_
  rintro e w1 ⟨b1, b2, b3, n, rfl, rfl⟩
  go_wp2_with fail
  exact ⟨rfl, .tuple #[.bool b1, .bool b2, .bool b3, .bool true, .int .i64 (nullCode c), .int .i64 (wrap64 n)], by simp [results, Tryz.results11], b1, b2, b3, _, rfl, rfl⟩

set_option maxRecDepth 100000 in
theorem prmNull (w : World) (base E S W F : Nat) (tr : Value) (xs : List Int) (c : Int) (hc : c ≠ 28) (h : EncAt w base E S W tr xs) (hl : xs.length ≤ 100)
    (hF : w.cell? ⟨F, 5, none⟩ = some (.int .u8 c)) :
    Calls Tryz.prog 45 #[.pointer (some ⟨F, 0, none⟩), .pointer (some ⟨E, 0, none⟩), .nilIface] w fun e w' =>
      e = .returned .nilIface ∧ EncAt w' base E S W tr (xs ++ [nullCode c]) ∧ Below base w w' := by
  go_enter Tryz.func45, Tryz.ntmps45
  go_wp2_with fail
  refine (encTc_any c w).mono ?_
  rintro e w1 ⟨m, rfl, rfl⟩
  go_wp2_with fail
  refine (supportNull_any c hc w).mono ?_
  rintro e w1 ⟨rfl, rfl⟩
  go_wp2_with fail
  refine (nullValue_any c w).mono ?_
  rintro e w1 ⟨rfl, rfl⟩
  go_wp2_with fail
  refine (byte_any w base E S W tr xs h _ (by omega)).mono ?_
  rintro e w1 ⟨rfl, h1, hb⟩
  go_wp2_with fail
  go_ret
  exact ⟨rfl, h1, hb⟩

set_option maxRecDepth 100000 in
theorem sizeNull (w : World) (F : Nat) (c : Int) (hc : c ≠ 28) (hF : w.cell? ⟨F, 5, none⟩ = some (.int .u8 c)) :
    Calls Tryz.prog 24 #[.pointer (some ⟨F, 0, none⟩), .nilIface] w fun e w' => e = .returned (.int .i64 0) ∧ w = w' := by
  go_enter Tryz.func24, Tryz.ntmps24
  go_wp2_with fail
  go_enter Tryz.func44, Tryz.ntmps44
  go_wp2_with fail
  refine (supportNull_any c hc w).mono ?_
  rintro e w1 ⟨rfl, rfl⟩
  go_wp2_with fail
  go_ret
  exact ⟨by simp, rfl⟩

theorem fbNull (w : World) (c : Int) (hc : c ≠ 28) (h0 : 0 ≤ c) (h1 : c ≤ 255) :
    Calls Tryz.prog 8 #[.int .i64 c, .agg noVal, .int .i64 0, .int .i64 0] w fun e w' =>
      ∃ v, e = .returned (.tuple #[v, .int .i64 0, .int .i64 0]) ∧ w'.ownsRow w.heap.size 5 1 v 1 (u8s [nullCode c]) ∧ Below w.heap.size w w' := by
  refine fbCore w c 0 0 0 noVal rfl .nilIface [nullCode c] (fun _ _ => True) (by decide) (by decide) (by decide) (by decide) h0 h1 ?_ (fun _ _ _ _ _ => trivial) ?_ ?_
  · intro W hW _
    exact (anyOf0 W _ _ _ _ _ _ _ _).mono fun e w' ⟨h1, h2⟩ => ⟨h1, trivial, h2 ▸ (Below.refl _ W).alloc (Nat.le_refl _) _⟩
  · intro W B F hF _
    exact (sizeNull W F c hc hF.cells.2.2).mono fun e w' ⟨h1, h2⟩ => ⟨h1, h2 ▸ Below.refl _ W⟩
  · intro W base B E S Wr F tr _ hF hFb _ _ hE
    exact zzFieldBytes_any W _ _ _ _ (prmNull W base E S Wr F tr [] c hc hE (by simp) hF.cells.2.2)

theorem foNull (w : World) (c x : Int) (hx0 : 128 ≤ x) (hx1 : x ≤ 255) (h0 : 0 ≤ c) (h1 : c ≤ 255) (rb ro cc : Nat) (hin : Input w rb ro 1 cc [x]) (hrb : rb < w.heap.size) :
    Calls Tryz.prog 9 #[.int .i64 c, .slice (some ⟨rb, ro, none⟩) 1 cc, .int .i64 0, .bool false, .bool false] w fun e w' =>
      e = .returned (.tuple #[.agg noVal, .int .i64 1, .int .i64 0]) ∧ Below w.heap.size w w' := by
  refine (foCore w c 0 1 rb ro 1 cc false false [x] hin hrb (by decide) (by decide) (by decide) h0 h1 (fun x _ _ => x = .nilIface) (fun v _ _ => v = noVal) ?_ ?_ (fun _ _ _ _ h _ => h)).mono ?_
  · intro W base D S F tr _ hF hFD hFS hrb' hD hin'
    refine (zzFieldOf_any W _ _ _ (decPrmNull W base D S rb ro 1 cc tr false false _ x rfl hx0 hx1 F hD hin')).mono ?_
    rintro e w' ⟨x, y, h1, h2, h3, h4, h5⟩
    exact ⟨x, y, h1, h3, h2, h4, h5⟩
  · rintro W B x rfl hB
    exact (valOf0 W).mono fun e w' ⟨h1, h2⟩ => ⟨_, h1, rfl, plain1 0 false 0 0 none 0 0, rfl, h2⟩
  · rintro e w' ⟨v, B, rfl, _, rfl, _, hb⟩
    exact ⟨rfl, hb⟩
end Go.Proofs.YtnnckokoaenolaaGreatDoor
