/- Of the decoder: what it tells of itself; a parameter is decoded out of the contract of its type code. -/
import Derived.Test.YtipoenpakjpokaaGreatDoorDec2
import Derived.Test.YtipoenpakjpokaaGreatDoorFbCore
set_option linter.unusedVariables false
set_option linter.unusedSimpArgs false
namespace Go.Proofs.YtipoenpakjpokaaGreatDoor
open Go.RowKit

theorem decError_any (w : World) (base D S rb ro n c : Nat) (tr : Value) (dfv emp : Bool) (k : Nat) (h : DecAt w base D S rb ro n c tr dfv emp k) :
    Calls Tryz.prog 20 #[.pointer (some ⟨D, 0, none⟩)] w fun e w' => e = .returned .nilIface ∧ w = w' := by
  obtain ⟨c2, c3, c4, c5, c6⟩ := h.cells
  go_enter Tryz.func20, Tryz.ntmps20
  go_wp2
  go_ret
  exact ⟨rfl, rfl⟩
theorem decCnt_any (w : World) (base D S rb ro n c : Nat) (tr : Value) (dfv emp : Bool) (k : Nat) (h : DecAt w base D S rb ro n c tr dfv emp k) :
    Calls Tryz.prog 22 #[.pointer (some ⟨D, 0, none⟩)] w fun e w' => e = .returned (.int .i64 k) ∧ w = w' := by
  obtain ⟨c2, c3, c4, c5, c6⟩ := h.cells
  go_enter Tryz.func22, Tryz.ntmps22
  go_wp2
  go_ret
  exact ⟨rfl, rfl⟩

theorem and128 : ∀ n : Fin 256, bits .and .u8 (n.val : Int) 128 = if n.val < 128 then 0 else 128 := by decide +kernel
theorem and128_hi {x : Int} (h1 : 128 ≤ x) (h2 : x ≤ 255) : bits .and .u8 x 128 = 128 := by
  have := and128 ⟨x.toNat, by omega⟩
  rw [if_neg (by show ¬ x.toNat < 128; omega)] at this
  rwa [show ((⟨x.toNat, by omega⟩ : Fin 256).val : Int) = x by show ((x.toNat : Nat) : Int) = x; omega] at this
theorem and128_lo {x : Int} (h1 : 0 ≤ x) (h2 : x < 128) : bits .and .u8 x 128 = 0 := by
  have := and128 ⟨x.toNat, by omega⟩
  rw [if_pos (by show x.toNat < 128; omega)] at this
  rwa [show ((⟨x.toNat, by omega⟩ : Fin 256).val : Int) = x by show ((x.toNat : Nat) : Int) = x; omega] at this

theorem FieldAt.keeps {w w' : World} {F : Nat} {tc prec scale : Int} {T : Nat → Prop} (h : FieldAt w F tc prec scale) (hb : Keeps T w w') (hF : ¬ T F) : FieldAt w' F tc prec scale := by
  obtain ⟨nm, h⟩ := h
  exact ⟨nm, hb.at_ h hF⟩
/-- What ZzFieldOf hands on. -/
theorem zzFieldOf_any (w : World) (p q : Value) (Q : Value → Value → World → Prop)
    (h : Calls Tryz.prog 35 #[p, q] w fun e w' => ∃ x y, e = .returned (.tuple #[x, y]) ∧ Q x y w') :
    Calls Tryz.prog 19 #[p, q] w fun e w' => ∃ x y, e = .returned (.tuple #[x, y]) ∧ Q x y w' := by
  have h' := Lib.hid h; clear h
  go_enter Tryz.func19, Tryz.ntmps19
  go_wp2_with fail
  refine h'.out.mono ?_
  rintro e w' ⟨x, y, rfl, hQ⟩
  go_wp2_with fail
  go_ret2
  exact ⟨x, y, rfl, hQ⟩

/-- A parameter that is null. -/
theorem decPrmNull (w : World) (base D S rb ro n c : Nat) (tr : Value) (dfv emp : Bool) (bs : List Int) (x : Int) (hx : bs[0]? = some x) (hx1 : 128 ≤ x) (hx2 : x ≤ 255) (F : Nat)
    (h : DecAt w base D S rb ro n c tr dfv emp 0) (hin : Input w rb ro n c bs) :
    Calls Tryz.prog 35 #[.pointer (some ⟨F, 0, none⟩), .pointer (some ⟨D, 0, none⟩)] w fun e w' =>
      ∃ x y, e = .returned (.tuple #[x, y]) ∧ x = .nilIface ∧ y = .nilIface ∧ DecAt w' base D S rb ro n c tr dfv emp 1 ∧ Below base w w' := by
  have hn := hin.len
  have hl : 0 < bs.length := (List.getElem?_eq_some_iff.1 hx).1
  have hx' : bs[0] = x := (List.getElem?_eq_some_iff.1 hx).2
  go_enter Tryz.func35, Tryz.ntmps35
  go_wp2_with fail
  refine (decByte_any w base D S rb ro n c tr dfv emp 0 bs h hin (by omega)).mono ?_
  rintro e w1 ⟨rfl, hd1, hk1, hb1⟩
  rw [hx']
  have hand := and128_hi hx1 hx2
  go_wp2_with fail
  go_ret2
  exact ⟨_, _, rfl, rfl, rfl, hd1, hb1⟩

/-- A parameter that is not: what its type code's reading gives. -/
theorem decPrm (w : World) (base D S rb ro n c : Nat) (tr : Value) (dfv emp : Bool) (bs : List Int) (x : Int) (hx : bs[0]? = some x) (hx1 : 0 ≤ x) (hx2 : x < 128) (F : Nat) (tc prec scale : Int)
    (h : DecAt w base D S rb ro n c tr dfv emp 0) (hin : Input w rb ro n c bs) (hF : FieldAt w F tc prec scale) (hFD : F ≠ D) (hFS : F ≠ S) (hrb : rb < base) (Q : Value → Value → World → Prop)
    (hdec : ∀ W, DecAt W base D S rb ro n c tr dfv emp 1 → Input W rb ro n c bs → Below base w W → Calls Tryz.prog 78 #[.int .u8 tc, .pointer (some ⟨D, 0, none⟩), .int .i64 scale] W fun e w' => ∃ x y, e = .returned (.tuple #[x, y]) ∧ Q x y w') :
    Calls Tryz.prog 35 #[.pointer (some ⟨F, 0, none⟩), .pointer (some ⟨D, 0, none⟩)] w fun e w' =>
      ∃ x y, e = .returned (.tuple #[x, y]) ∧ Q x y w' := by
  have hn := hin.len
  have hl : 0 < bs.length := (List.getElem?_eq_some_iff.1 hx).1
  have hx' : bs[0] = x := (List.getElem?_eq_some_iff.1 hx).2
  have hdec' := Lib.hid hdec; clear hdec
  go_enter Tryz.func35, Tryz.ntmps35
  go_wp2_with fail
  refine (decByte_any w base D S rb ro n c tr dfv emp 0 bs h hin (by omega)).mono ?_
  rintro e w1 ⟨rfl, hd1, hk1, hb1⟩
  rw [hx']
  have hand := and128_lo hx1 hx2
  obtain ⟨_, cs, ct⟩ := (hF.keeps hk1 (by simp [hFD, hFS])).cells
  go_wp2_with fail
  have hbd : Below base w w1.drew := hb1.trans ⟨rfl, rfl, rfl, Nat.le_refl _, fun _ _ => rfl⟩
  have hc := Lib.hid (hdec'.out w1.drew (hd1.keep (Keeps.refl (fun _ => False) _).drew id id) (hin.below hbd hrb) hbd)
  clear hdec'
  go_region_with (refine hc.out.mono ?_; rintro e w' ⟨x1, y1, rfl, hQ⟩)
  all_goals go_wp2_with fail
  all_goals go_ret2
  all_goals exact ⟨_, _, rfl, hQ⟩
end Go.Proofs.YtipoenpakjpokaaGreatDoor
