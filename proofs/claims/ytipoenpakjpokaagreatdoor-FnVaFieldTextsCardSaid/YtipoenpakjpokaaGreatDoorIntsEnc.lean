/- The encoder's integers of 2, 4, 8 bytes. -/
import Derived.Test.YtipoenpakjpokaaGreatDoorEnds
import Derived.Test.YtipoenpakjpokaaGreatDoorEnc2
set_option linter.unusedVariables false
set_option linter.unusedSimpArgs false
namespace Go.Proofs.YtipoenpakjpokaaGreatDoor
open Go.RowKit

set_option maxRecDepth 100000 in
/-- The writer's Write, seen from the encoder. -/
theorem encWrite (w : World) (base E S W : Nat) (tr : Value) (xs ys : List Int) (h : EncAt w base E S W tr xs) (b o n c : Nat) (hn : ys.length = n) (hy : ∀ j (h : j < ys.length), w.cell? ⟨b, o + j, none⟩ = some (.int .u8 ys[j]))
    (hl : xs.length + ys.length ≤ 1000000) :
    Calls Tryz.prog 90 #[.pointer (some ⟨W, 0, none⟩), .slice (some ⟨b, o, none⟩) n c] w fun e w' =>
      e = .returned (.tuple #[.int .i64 n, .nilIface]) ∧ EncAt w' base E S W tr (xs ++ ys) ∧ Below base w w' := by
  obtain ⟨v, hwr, hS⟩ := h.wr
  obtain ⟨C, hC, hs⟩ := h.scr
  obtain ⟨l1, l2, l3⟩ := h.lo
  have he := h.enc
  refine (write_any w base W v xs ys hwr l3 b o n c hn hy hl).mono ?_
  rintro e w1 ⟨rfl, v', hwr', hk, hat⟩
  obtain ⟨tb, te, ht⟩ := h.tra
  have hTW : tb ≠ W := fun e => by have := hwr.blk; rw [← e, ht] at this; simp at this
  have hTv := ownBlock_ne hwr.own ht (by decide)
  have hEW : E ≠ W := fun e => by have := hwr.blk; rw [← e, he] at this; simp at this
  have hSW : S ≠ W := fun e => by have := hwr.blk; rw [← e, hs] at this; simp at this
  have hEv := ownBlock_ne hwr.own he (by decide)
  have he1 := hk.at_ he (fun x => x.elim hEW hEv)
  have hs1 := hk.at_ hs (fun x => x.elim hSW hS)
  have hbel : Below base w w1 := hk.below (by have := sizeOf_blk he; omega) (fun k hk' x => x.elim (fun e => by omega) (fun e => by have := (ownBlock_ge hwr.own k e).1; omega))
  refine ⟨rfl, ⟨he1, ⟨C, hC, hs1⟩, ⟨v', hwr', ?_⟩, ⟨l1, l2, l3⟩, ⟨tb, te, hk.at_ ht (fun x => x.elim hTW hTv)⟩⟩, hbel⟩
  rcases hat with hat | hat
  · rw [hat]; exact hS
  · rw [hat]; have := sizeOf_blk hs; intro e; injection e; omega

theorem EncAt.drew {w : World} {base E S W : Nat} {tr : Value} {xs : List Int} (h : EncAt w base E S W tr xs) : EncAt w.drew base E S W tr xs := h.keep ⟨rfl, rfl, rfl, Nat.le_refl _, fun _ _ => rfl⟩
theorem EncAt.setCells {base E S W : Nat} {tr : Value} {xs : List Int} : ∀ (vs : List Value) {w : World} (h : EncAt w base E S W tr xs) (o : Nat), EncAt (w.setCells S o vs) base E S W tr xs
  | [], _, h, _ => h
  | v :: vs, _, h, o => EncAt.setCells vs (h.store o v) (o + 1)
theorem EncAt.scrCell {w : World} {base E S W : Nat} {tr : Value} {xs : List Int} (h : EncAt w base E S W tr xs) (i : Nat) (hi : i < 4096) : ∃ u, w.cell? ⟨S, i, none⟩ = some u ∧ w.frozen? ⟨S, i, none⟩ = false := by
  obtain ⟨⟨u, a⟩, b⟩ := h.cell i hi
  exact ⟨u, a, b⟩
theorem leNum16 (i : Int) : ∃ v : Nat, IntKind.u16.wrap i = (v : Int) ∧ v < 65536 ∧ leB v 2 = leB i 2 := by
  refine ⟨(i % 65536).toNat, ?_, by omega, ?_⟩
  · simp [IntKind.wrap, IntKind.bits, IntKind.signed]; omega
  · simp only [leB, List.cons.injEq, and_true]
    omega
theorem leNum32 (i : Int) : ∃ v : Nat, IntKind.u32.wrap i = (v : Int) ∧ v < 4294967296 ∧ leB v 4 = leB i 4 := by
  refine ⟨(i % 4294967296).toNat, ?_, by omega, ?_⟩
  · simp [IntKind.wrap, IntKind.bits, IntKind.signed]; omega
  · simp only [leB, List.cons.injEq, and_true]
    omega
theorem leNum64 (i : Int) : ∃ v : Nat, IntKind.u64.wrap i = (v : Int) ∧ v < 18446744073709551616 ∧ leB v 8 = leB i 8 := by
  have e : (((i % 18446744073709551616).toNat : Nat) : Int) = i % 18446744073709551616 := by omega
  refine ⟨(i % 18446744073709551616).toNat, ?_, by omega, ?_⟩
  · rw [e]; simp [IntKind.wrap, IntKind.bits, IntKind.signed]
  · rw [e]; simp only [leB, List.cons.injEq, and_true]
    refine ⟨by omega, by omega, by omega, by omega, by omega, by omega, by omega, by omega⟩

/-- Cells that are laid read as what was laid. -/
theorem laidAt {w : World} {S o : Nat} {ys : List Int} (hc : ∀ j, j < ys.length → (w.cell? ⟨S, o + j, none⟩).isSome = true) : ∀ j (h : j < ys.length), (w.setCells S o (ys.map (Value.int .u8))).cell? ⟨S, o + j, none⟩ = some (.int .u8 ys[j]) := by
  intro j h
  have := World.cell?_setCells_in S (ys.map (Value.int .u8)) o w (by simpa using hc) j (by simpa using h)
  simpa using this

set_option maxRecDepth 100000 in
set_option maxHeartbeats 1000000 in
theorem encInt16 (w : World) (base E S W : Nat) (tr : Value) (xs : List Int) (h : EncAt w base E S W tr xs) (i : Int) (hi0 : -32768 ≤ i) (hi1 : i < 32768) (hl : xs.length ≤ 900000) :
    Calls Tryz.prog 41 #[.pointer (some ⟨E, 0, none⟩), .int .i16 i] w fun e w' =>
      e = .returned (.tuple #[]) ∧ EncAt w' base E S W tr (xs ++ leB i 2) ∧ Below base w w' := by
  have he := h.enc
  have hlo := h.lo
  have c0 : w.cell? ⟨E, 0, none⟩ = some (.pointer (some ⟨W, 0, none⟩)) := by rw [cellOf he]; rfl
  have c1 : w.cell? ⟨E, 1, none⟩ = some (.slice (some ⟨S, 0, none⟩) 4096 4096) := by rw [cellOf he]; rfl
  obtain ⟨v, hwr, hv, hle⟩ := leNum16 i
  have hle' := Lib.hid hle; clear hle
  obtain ⟨u0, a0, b0⟩ := h.scrCell 0 (by decide)
  obtain ⟨u1, a1, b1⟩ := h.scrCell 1 (by decide)
  have hP := Lib.hid (put16 w.drew S 2 4096 v hv (by decide) u0 u1 a0 a1 b0 b1)
  obtain ⟨W1, hW1⟩ : ∃ W1, W1 = (w.drew.alloc (.cells #[] 151)).setCells S 0 ((leB v 2).map (Value.int .u8)) := ⟨_, rfl⟩
  have ha : EncAt (w.drew.alloc (.cells #[] 151)) base E S W tr xs := h.drew.keep ((Below.refl _ _).alloc (Nat.le_refl _) _)
  have h1 : EncAt W1 base E S W tr xs := by rw [hW1]; exact ha.setCells _ _
  have hb1 : Below base w W1 := by
    rw [hW1]
    have hz := sizeOf_blk h.enc
    exact ((Below.drew (Below.refl base w)).alloc (by show base ≤ w.heap.size; omega) _).trans (Lib.below_setCells_w (by omega) _ _ _)
  have hy : ∀ j (h : j < (leB v 2).length), W1.cell? ⟨S, 0 + j, none⟩ = some (.int .u8 (leB v 2)[j]) := by
    rw [hW1]
    refine laidAt fun j hj => ?_
    obtain ⟨u, a, _⟩ := ha.scrCell (0 + j) (by simp at hj; omega)
    rw [a]; rfl
  have hP2 := Lib.hid (encWrite W1.drew base E S W tr xs (leB v 2) h1.drew S 0 2 4096 (by simp) hy (by simp; omega))
  have he1 := h1.enc
  have d0 : W1.cell? ⟨E, 0, none⟩ = some (.pointer (some ⟨W, 0, none⟩)) := by rw [cellOf he1]; rfl
  have d1 : W1.cell? ⟨E, 1, none⟩ = some (.slice (some ⟨S, 0, none⟩) 4096 4096) := by rw [cellOf he1]; rfl
  clear a0 a1 b0 b1 hy ha he1 hv
  replace hW1 := Lib.hid hW1
  replace hlo := Lib.hid hlo
  go_enter Tryz.func41, Tryz.ntmps41
  go_wp2_with fail
  go_region_with (refine hP.out.mono ?_; rintro e w2 ⟨rfl, hw2⟩; have hw3 := hw2.trans hW1.out.symm; clear hw2; subst hw3)
  all_goals go_wp2_with fail
  all_goals go_region_with (refine hP2.out.mono ?_; rintro e w3 ⟨rfl, h3, hb3⟩)
  all_goals go_wp2
  all_goals go_end0
  all_goals exact ⟨rfl, hle'.out ▸ h3, (Below.drew hb1).trans hb3⟩

set_option maxRecDepth 100000 in
set_option maxHeartbeats 1000000 in
theorem encInt32 (w : World) (base E S W : Nat) (tr : Value) (xs : List Int) (h : EncAt w base E S W tr xs) (i : Int) (hi0 : -2147483648 ≤ i) (hi1 : i < 2147483648) (hl : xs.length ≤ 900000) :
    Calls Tryz.prog 42 #[.pointer (some ⟨E, 0, none⟩), .int .i32 i] w fun e w' =>
      e = .returned (.tuple #[]) ∧ EncAt w' base E S W tr (xs ++ leB i 4) ∧ Below base w w' := by
  have he := h.enc
  have hlo := h.lo
  have c0 : w.cell? ⟨E, 0, none⟩ = some (.pointer (some ⟨W, 0, none⟩)) := by rw [cellOf he]; rfl
  have c1 : w.cell? ⟨E, 1, none⟩ = some (.slice (some ⟨S, 0, none⟩) 4096 4096) := by rw [cellOf he]; rfl
  obtain ⟨v, hwr, hv, hle⟩ := leNum32 i
  have hle' := Lib.hid hle; clear hle
  obtain ⟨u0, a0, b0⟩ := h.scrCell 0 (by decide)
  obtain ⟨u1, a1, b1⟩ := h.scrCell 1 (by decide)
  obtain ⟨u2, a2, b2⟩ := h.scrCell 2 (by decide)
  obtain ⟨u3, a3, b3⟩ := h.scrCell 3 (by decide)
  have hP := Lib.hid (put32 w.drew S 4 4096 v hv (by decide) u0 u1 u2 u3 a0 a1 a2 a3 b0 b1 b2 b3)
  obtain ⟨W1, hW1⟩ : ∃ W1, W1 = (w.drew.alloc (.cells #[] 151)).setCells S 0 ((leB v 4).map (Value.int .u8)) := ⟨_, rfl⟩
  have ha : EncAt (w.drew.alloc (.cells #[] 151)) base E S W tr xs := h.drew.keep ((Below.refl _ _).alloc (Nat.le_refl _) _)
  have h1 : EncAt W1 base E S W tr xs := by rw [hW1]; exact ha.setCells _ _
  have hb1 : Below base w W1 := by
    rw [hW1]
    have hz := sizeOf_blk h.enc
    exact ((Below.drew (Below.refl base w)).alloc (by show base ≤ w.heap.size; omega) _).trans (Lib.below_setCells_w (by omega) _ _ _)
  have hy : ∀ j (h : j < (leB v 4).length), W1.cell? ⟨S, 0 + j, none⟩ = some (.int .u8 (leB v 4)[j]) := by
    rw [hW1]
    refine laidAt fun j hj => ?_
    obtain ⟨u, a, _⟩ := ha.scrCell (0 + j) (by simp at hj; omega)
    rw [a]; rfl
  have hP2 := Lib.hid (encWrite W1.drew base E S W tr xs (leB v 4) h1.drew S 0 4 4096 (by simp) hy (by simp; omega))
  have he1 := h1.enc
  have d0 : W1.cell? ⟨E, 0, none⟩ = some (.pointer (some ⟨W, 0, none⟩)) := by rw [cellOf he1]; rfl
  have d1 : W1.cell? ⟨E, 1, none⟩ = some (.slice (some ⟨S, 0, none⟩) 4096 4096) := by rw [cellOf he1]; rfl
  clear a0 a1 a2 a3 b0 b1 b2 b3 hy ha he1 hv
  replace hW1 := Lib.hid hW1
  replace hlo := Lib.hid hlo
  go_enter Tryz.func42, Tryz.ntmps42
  go_wp2_with fail
  go_region_with (refine hP.out.mono ?_; rintro e w2 ⟨rfl, hw2⟩; have hw3 := hw2.trans hW1.out.symm; clear hw2; subst hw3)
  all_goals go_wp2_with fail
  all_goals go_region_with (refine hP2.out.mono ?_; rintro e w3 ⟨rfl, h3, hb3⟩)
  all_goals go_wp2
  all_goals go_end0
  all_goals exact ⟨rfl, hle'.out ▸ h3, (Below.drew hb1).trans hb3⟩

set_option maxRecDepth 100000 in
set_option maxHeartbeats 1000000 in
theorem encInt64 (w : World) (base E S W : Nat) (tr : Value) (xs : List Int) (h : EncAt w base E S W tr xs) (i : Int) (hi0 : -9223372036854775808 ≤ i) (hi1 : i < 9223372036854775808) (hl : xs.length ≤ 900000) :
    Calls Tryz.prog 106 #[.pointer (some ⟨E, 0, none⟩), .int .i64 i] w fun e w' =>
      e = .returned (.tuple #[]) ∧ EncAt w' base E S W tr (xs ++ leB i 8) ∧ Below base w w' := by
  have he := h.enc
  have hlo := h.lo
  have c0 : w.cell? ⟨E, 0, none⟩ = some (.pointer (some ⟨W, 0, none⟩)) := by rw [cellOf he]; rfl
  have c1 : w.cell? ⟨E, 1, none⟩ = some (.slice (some ⟨S, 0, none⟩) 4096 4096) := by rw [cellOf he]; rfl
  obtain ⟨v, hwr, hv, hle⟩ := leNum64 i
  have hle' := Lib.hid hle; clear hle
  obtain ⟨u0, a0, b0⟩ := h.scrCell 0 (by decide)
  obtain ⟨u1, a1, b1⟩ := h.scrCell 1 (by decide)
  obtain ⟨u2, a2, b2⟩ := h.scrCell 2 (by decide)
  obtain ⟨u3, a3, b3⟩ := h.scrCell 3 (by decide)
  obtain ⟨u4, a4, b4⟩ := h.scrCell 4 (by decide)
  obtain ⟨u5, a5, b5⟩ := h.scrCell 5 (by decide)
  obtain ⟨u6, a6, b6⟩ := h.scrCell 6 (by decide)
  obtain ⟨u7, a7, b7⟩ := h.scrCell 7 (by decide)
  have hP := Lib.hid (put64 w.drew S 8 4096 v hv (by decide) u0 u1 u2 u3 u4 u5 u6 u7 a0 a1 a2 a3 a4 a5 a6 a7 b0 b1 b2 b3 b4 b5 b6 b7)
  obtain ⟨W1, hW1⟩ : ∃ W1, W1 = (w.drew.alloc (.cells #[] 151)).setCells S 0 ((leB v 8).map (Value.int .u8)) := ⟨_, rfl⟩
  have ha : EncAt (w.drew.alloc (.cells #[] 151)) base E S W tr xs := h.drew.keep ((Below.refl _ _).alloc (Nat.le_refl _) _)
  have h1 : EncAt W1 base E S W tr xs := by rw [hW1]; exact ha.setCells _ _
  have hb1 : Below base w W1 := by
    rw [hW1]
    have hz := sizeOf_blk h.enc
    exact ((Below.drew (Below.refl base w)).alloc (by show base ≤ w.heap.size; omega) _).trans (Lib.below_setCells_w (by omega) _ _ _)
  have hy : ∀ j (h : j < (leB v 8).length), W1.cell? ⟨S, 0 + j, none⟩ = some (.int .u8 (leB v 8)[j]) := by
    rw [hW1]
    refine laidAt fun j hj => ?_
    obtain ⟨u, a, _⟩ := ha.scrCell (0 + j) (by simp at hj; omega)
    rw [a]; rfl
  have hP2 := Lib.hid (encWrite W1.drew base E S W tr xs (leB v 8) h1.drew S 0 8 4096 (by simp) hy (by simp; omega))
  have he1 := h1.enc
  have d0 : W1.cell? ⟨E, 0, none⟩ = some (.pointer (some ⟨W, 0, none⟩)) := by rw [cellOf he1]; rfl
  have d1 : W1.cell? ⟨E, 1, none⟩ = some (.slice (some ⟨S, 0, none⟩) 4096 4096) := by rw [cellOf he1]; rfl
  clear a0 a1 a2 a3 a4 a5 a6 a7 b0 b1 b2 b3 b4 b5 b6 b7 hy ha he1 hv
  replace hW1 := Lib.hid hW1
  replace hlo := Lib.hid hlo
  go_enter Tryz.func106, Tryz.ntmps106
  go_wp2_with fail
  go_region_with (refine hP.out.mono ?_; rintro e w2 ⟨rfl, hw2⟩; have hw3 := hw2.trans hW1.out.symm; clear hw2; subst hw3)
  all_goals go_wp2_with fail
  all_goals go_region_with (refine hP2.out.mono ?_; rintro e w3 ⟨rfl, h3, hb3⟩)
  all_goals go_wp2
  all_goals go_end0
  all_goals exact ⟨rfl, hle'.out ▸ h3, (Below.drew hb1).trans hb3⟩
end Go.Proofs.YtipoenpakjpokaaGreatDoor
