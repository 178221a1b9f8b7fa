/- Truth values: what FieldBytes lays, what FieldOf reads. -/
import Derived.Test.YtipoenpakjpokaaGreatDoorFoCore
import Derived.Test.YtipoenpakjpokaaGreatDoorValOf
set_option linter.unusedVariables false
set_option linter.unusedSimpArgs false
namespace Go.Proofs.YtipoenpakjpokaaGreatDoor
open Go.RowKit

/-- A truth value, or null: 0, 2, 1. -/
def boolAny : Option Bool → Value
  | some b => .iface 4 (.bool b)
  | none => .nilIface
def boolByte : Option Bool → Int
  | some true => 2
  | some false => 0
  | none => 1

@[go_sem] theorem as_b_b1 (v : Value) (w : World) : (Instr.typeAssert (.iface 4 v) 20 4 false).run Tryz.prog w = .ok v w := by kernel_rfl

set_option maxRecDepth 100000 in
theorem boolField (w : World) (base E S W : Nat) (tr : Value) (xs : List Int) (o : Option Bool) (h : EncAt w base E S W tr xs) (hl : xs.length ≤ 1000) :
    Calls Tryz.prog 54 #[.pointer (some ⟨E, 0, none⟩), boolAny o] w fun e w' =>
      e = .returned .nilIface ∧ EncAt w' base E S W tr (xs ++ [boolByte o]) ∧ Below base w w' := by
  rcases o with _ | _ | _
  all_goals
    simp only [boolAny, boolByte]
    go_enter Tryz.func54, Tryz.ntmps54
    go_wp2_with fail
    refine (byte_any w base E S W tr xs h _ (by omega)).mono ?_
    rintro e w1 ⟨rfl, h1, hb⟩
    go_wp2
    go_ret
    exact ⟨rfl, by simpa using h1, hb⟩

set_option maxRecDepth 100000 in
theorem prmBool (w : World) (base E S W F : Nat) (tr : Value) (xs : List Int) (o : Option Bool) (h : EncAt w base E S W tr xs) (hl : xs.length ≤ 100)
    (hF : w.cell? ⟨F, 5, none⟩ = some (.int .u8 28)) (hFb : F < base) :
    Calls Tryz.prog 31 #[.pointer (some ⟨F, 0, none⟩), .pointer (some ⟨E, 0, none⟩), boolAny o] w fun e w' =>
      e = .returned .nilIface ∧ EncAt w' base E S W tr (xs ++ [28] ++ [boolByte o]) ∧ Below base w w' := by
  have key : ∀ w1, EncAt w1 base E S W tr (xs ++ [28]) → Calls Tryz.prog 54 #[.pointer (some ⟨E, 0, none⟩), boolAny o] w1 fun e w' =>
      e = .returned .nilIface ∧ EncAt w' base E S W tr (xs ++ [28] ++ [boolByte o]) ∧ Below base w1 w' := fun w1 h1 => boolField w1 base E S W tr (xs ++ [28]) o h1 (by simp; omega)
  have key' := Lib.hid key; clear key
  rcases o with _ | b
  all_goals
    simp only [boolAny] at *
    go_enter Tryz.func31, Tryz.ntmps31
    go_wp2_with (first | (go_at_call 52; go_in) | (go_at_call 48; go_in))
    refine (byte_any w base E S W tr xs h 28 (by omega)).mono ?_
    rintro e w1 ⟨rfl, h1, hb⟩
    have hF1 : w1.cell? ⟨F, 5, none⟩ = some (.int .u8 28) := (hb.cell (p := ⟨F, 5, none⟩) hFb).trans hF
    go_wp2_with fail
    refine (key'.out w1 h1).mono ?_
    rintro e w2 ⟨rfl, h2, hb2⟩
    go_wp2
    go_ret
    exact ⟨rfl, h2, hb.trans hb2⟩

set_option maxRecDepth 100000 in
theorem size28' (w : World) (F : Nat) (o : Option Bool) (hF : w.cell? ⟨F, 5, none⟩ = some (.int .u8 28)) :
    Calls Tryz.prog 15 #[.pointer (some ⟨F, 0, none⟩), boolAny o] w fun e w' => e = .returned (.int .i64 1) ∧ w = w' := by
  rcases o with _ | b
  all_goals
    simp only [boolAny]
    go_enter Tryz.func15, Tryz.ntmps15
    go_wp2
    go_ret
    exact ⟨by simp, rfl⟩
/-- What ZzFieldBytes hands on. -/
theorem zzFieldBytes_any (w : World) (p q x : Value) (Q : World → Prop)
    (h : Calls Tryz.prog 31 #[p, q, x] w fun e w' => e = .returned .nilIface ∧ Q w') :
    Calls Tryz.prog 16 #[p, q, x] w fun e w' => e = .returned .nilIface ∧ Q w' := by
  have h' := Lib.hid h; clear h
  go_enter Tryz.func16, Tryz.ntmps16
  go_wp2_with fail
  refine h'.out.mono ?_
  rintro e w' ⟨rfl, hQ⟩
  go_wp2_with fail
  go_ret
  exact ⟨rfl, hQ⟩

/-- A Val that is a truth value, or null. -/
def boolVal (o : Option Bool) : Array Value := plainVal (if o.isSome then 1 else 0) (o.getD false) 0 0 (.slice none 0 0)
theorem fbBool (w : World) (o : Option Bool) :
    Calls Tryz.prog 6 #[.int .i64 28, .agg (boolVal o), .int .i64 0, .int .i64 0] w fun e w' =>
      ∃ v, e = .returned (.tuple #[v, .int .i64 1, .int .i64 0]) ∧ w'.ownsRow w.heap.size 5 1 v 2 (u8s [28, boolByte o]) ∧ Below w.heap.size w w' := by
  refine fbCore w 28 0 0 1 (boolVal o) rfl (boolAny o) [28, boolByte o] (fun _ _ => True) (by decide) (by decide) (by decide) (by decide) (by decide) (by decide) ?_ (fun _ _ _ _ _ => trivial) ?_ ?_
  · intro W hW _
    rcases o with _ | b
    · exact (anyOf0 W _ _ _ _ _ _ _ _).mono fun e w' ⟨h1, h2⟩ => ⟨h1, trivial, h2 ▸ (Below.refl _ W).alloc (Nat.le_refl _) _⟩
    · exact (anyOf1 W _ _ _ _ _ _ _ _).mono fun e w' ⟨h1, h2⟩ => ⟨h1, trivial, h2 ▸ (Below.refl _ W).alloc (Nat.le_refl _) _⟩
  · intro W B F hF _
    exact (size28' W F o hF.cells.2.2).mono fun e w' ⟨h1, h2⟩ => ⟨h1, h2 ▸ Below.refl _ W⟩
  · intro W base B E S Wr F tr _ hF hFb _ _ hE
    exact zzFieldBytes_any W _ _ _ _ (prmBool W base E S Wr F tr [] o hE (by simp) hF.cells.2.2 hFb)

set_option maxRecDepth 100000 in
theorem decBool (W : World) (base D S rb ro n c : Nat) (tr : Value) (dfv emp : Bool) (bs : List Int) (k : Nat) (o : Option Bool) (hx : bs[k]? = some (boolByte o)) (scale : Int)
    (h : DecAt W base D S rb ro n c tr dfv emp k) (hin : Input W rb ro n c bs) :
    Calls Tryz.prog 78 #[.int .u8 28, .pointer (some ⟨D, 0, none⟩), .int .i64 scale] W fun e w' =>
      ∃ x y, e = .returned (.tuple #[x, y]) ∧ x = boolAny o ∧ y = .nilIface ∧ DecAt w' base D S rb ro n c tr dfv emp (k + 1) ∧ Below base W w' := by
  have hn := hin.len
  have hl : k < bs.length := (List.getElem?_eq_some_iff.1 hx).1
  have hx' : bs[k] = boolByte o := (List.getElem?_eq_some_iff.1 hx).2
  go_enter Tryz.func78, Tryz.ntmps78
  go_wp2_with fail
  go_enter Tryz.func129, Tryz.ntmps129
  go_wp2_with fail
  refine (decByte_any W base D S rb ro n c tr dfv emp k bs h hin (by omega)).mono ?_
  rintro e w1 ⟨rfl, hd1, hk1, hb1⟩
  rw [hx']
  rcases o with _ | _ | _
  all_goals
    simp only [boolAny, boolByte]
    go_wp2_with fail
    go_ret2
    exact ⟨_, _, rfl, rfl, rfl, hd1, hb1⟩

theorem foBool (w : World) (o : Option Bool) (rb ro c : Nat) (hin : Input w rb ro 2 c [28, boolByte o]) (hrb : rb < w.heap.size) :
    Calls Tryz.prog 7 #[.int .i64 28, .slice (some ⟨rb, ro, none⟩) 2 c, .int .i64 0, .bool false, .bool false] w fun e w' =>
      e = .returned (.tuple #[.agg (boolVal o), .int .i64 2, .int .i64 0]) ∧ Below w.heap.size w w' := by
  refine (foCore w 28 0 2 rb ro 2 c false false [28, boolByte o] hin hrb (by decide) (by decide) (by decide) (by decide) (by decide) (fun x _ _ => x = boolAny o) (fun v _ _ => v = boolVal o) ?_ ?_ (fun _ _ _ _ h _ => h)).mono ?_
  · intro W base D S F tr _ hF hFD hFS hrb' hD hin'
    refine (zzFieldOf_any W _ _ _ (decPrm W base D S rb ro 2 c tr false false _ 28 rfl (by decide) (by decide) F 28 0 0 hD hin' hF hFD hFS hrb' (fun x y w' => x = boolAny o ∧ y = .nilIface ∧ DecAt w' base D S rb ro 2 c tr false false 2 ∧ Below base W w') ?_)).mono ?_
    · intro W1 hD1 hin1 hb1
      exact (decBool W1 base D S rb ro 2 c tr false false _ 1 o rfl 0 hD1 hin1).mono fun e w' ⟨x, y, h1, h2, h3, h4, h5⟩ => ⟨x, y, h1, h2, h3, h4, hb1.trans h5⟩
    · rintro e w' ⟨x, y, h1, h2, h3, h4, h5⟩
      exact ⟨x, y, h1, h3, h2, h4, h5⟩
  · rintro W B x rfl hB
    rcases o with _ | b
    · exact (valOf0 W).mono fun e w' ⟨h1, h2⟩ => ⟨_, h1, rfl, plain1 0 false 0 0 none 0 0, rfl, h2⟩
    · exact (valOf1 W b).mono fun e w' ⟨h1, h2⟩ => ⟨_, h1, rfl, plain1 1 b 0 0 none 0 0, rfl, h2⟩
  · rintro e w' ⟨v, B, rfl, _, rfl, _, hb⟩
    exact ⟨rfl, hb⟩
end Go.Proofs.YtipoenpakjpokaaGreatDoor
