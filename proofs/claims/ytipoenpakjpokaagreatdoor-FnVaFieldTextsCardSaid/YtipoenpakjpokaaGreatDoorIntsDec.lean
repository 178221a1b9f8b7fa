/- The decoder's integers of 2, 4, 8 bytes. -/
import Derived.Test.YtipoenpakjpokaaGreatDoorEnds
import Derived.Test.YtipoenpakjpokaaGreatDoorDec3
set_option linter.unusedVariables false
set_option linter.unusedSimpArgs false
namespace Go.Proofs.YtipoenpakjpokaaGreatDoor
open Go.RowKit

theorem Below.keeps {w w' : World} (h : Below w.heap.size w w') : Keeps (fun _ => False) w w' := ⟨h.os, h.tape, h.output, h.size, fun k hk _ => h.block k hk⟩
theorem leAt {bs : List Int} {k m : Nat} {i : Int} (hx : (bs.drop k).take m = leB i m) (j : Nat) (hj : j < m) (hb : k + j < bs.length) : bs[k + j] = (leB i m)[j]'(by simpa using hj) := by
  have h := congrArg (·[j]?) hx
  simp only [List.getElem?_take, hj, if_true, List.getElem?_drop] at h
  rw [List.getElem?_eq_getElem hb, List.getElem?_eq_getElem (by simpa using hj)] at h
  exact Option.some.inj h
theorem leSum2 (i : Int) : i % 256 + i / 256 % 256 * 256 = i % 65536 := by omega
theorem wrapI16 (i : Int) (h0 : -32768 ≤ i) (h1 : i < 32768) : IntKind.i16.wrap (i % 65536) = i := by simp [IntKind.wrap, IntKind.bits, IntKind.signed]; omega
theorem leSum4 (i : Int) : i % 256 + i / 256 % 256 * 256 + i / 256 / 256 % 256 * 65536 + i / 256 / 256 / 256 % 256 * 16777216 = i % 4294967296 := by omega
theorem wrapI32 (i : Int) (h0 : -2147483648 ≤ i) (h1 : i < 2147483648) : IntKind.i32.wrap (i % 4294967296) = i := by simp [IntKind.wrap, IntKind.bits, IntKind.signed]; omega
theorem leSum8 (i : Int) : i % 256 + i / 256 % 256 * 256 + i / 256 / 256 % 256 * 65536 + i / 256 / 256 / 256 % 256 * 16777216 + i / 256 / 256 / 256 / 256 % 256 * 4294967296 + i / 256 / 256 / 256 / 256 / 256 % 256 * 1099511627776 + i / 256 / 256 / 256 / 256 / 256 / 256 % 256 * 281474976710656 + i / 256 / 256 / 256 / 256 / 256 / 256 / 256 % 256 * 72057594037927936 = i % 18446744073709551616 := by omega
theorem wrapI64 (i : Int) (h0 : -9223372036854775808 ≤ i) (h1 : i < 9223372036854775808) : IntKind.i64.wrap (i % 18446744073709551616) = i := by simp [IntKind.wrap, IntKind.bits, IntKind.signed]; omega

set_option maxRecDepth 100000 in
theorem decInt16 (w : World) (base D S rb ro n c : Nat) (tr : Value) (dfv emp : Bool) (k : Nat) (bs : List Int) (i : Int) (h0 : -32768 ≤ i) (h1 : i < 32768) (hx : (bs.drop k).take 2 = leB i 2)
    (h : DecAt w base D S rb ro n c tr dfv emp k) (hin : Input w rb ro n c bs) (hkm : k + 2 ≤ n) :
    Calls Tryz.prog 130 #[.pointer (some ⟨D, 0, none⟩)] w fun e w' =>
      e = .returned (.int .i16 i) ∧ DecAt w' base D S rb ro n c tr dfv emp (k + 2) ∧ Keeps (fun x => x = D ∨ x = S) w w' ∧ Below base w w' := by
  obtain ⟨_, c3, _, _, _⟩ := h.cells
  have hx' := Lib.hid hx; clear hx
  have h01 := Lib.hid (And.intro h0 h1); clear h0 h1
  go_enter Tryz.func130, Tryz.ntmps130
  go_wp2_with fail
  refine (readScr w base D S rb ro n c tr dfv emp k bs h hin 2 4096 (by decide) hkm).mono ?_
  rintro e w1 ⟨rfl, hd1, hc, hk, hb⟩
  have hx := hx'.out
  have q0 : w1.cell? ⟨S, 0, none⟩ = some (.int .u8 (i % 256)) := by rw [hc 0 (by decide), leAt hx 0 (by decide) (by have := hin.len; omega)]; rfl
  have q1 : w1.cell? ⟨S, 1, none⟩ = some (.int .u8 (i / 256 % 256)) := by rw [hc 1 (by decide), leAt hx 1 (by decide) (by have := hin.len; omega)]; rfl
  clear hc hx
  obtain ⟨_, c3, _, _, _⟩ := hd1.cells
  have hG := Lib.hid (get16 w1.drew S 0 2 4096 (by decide) (i % 256) (i / 256 % 256) (by omega) (by omega) (by simpa using q0) (by simpa using q1))
  clear q0 q1
  go_wp2_with fail
  go_region_with (refine hG.out.mono ?_; rintro e w2 ⟨rfl, hb2⟩)
  all_goals go_wp2_with fail
  all_goals go_ret
  all_goals obtain ⟨h0, h1⟩ := h01.out
  all_goals have hb2' : Below w1.heap.size w1 w2 := (Below.drew (Below.refl _ w1)).trans hb2
  all_goals refine ⟨?_, hd1.keep (Below.keeps hb2') id id, hk.trans (Below.keeps hb2') (fun _ _ x => x.elim), hb.trans (hb2'.mono (by have := hd1.lo.1; have := sizeOf_blk hd1.dec; omega))⟩
  all_goals show Ending.returned (Value.int _ _) = _
  all_goals rw [leSum2, wrapI16 i h0 h1]

set_option maxRecDepth 100000 in
theorem decInt32 (w : World) (base D S rb ro n c : Nat) (tr : Value) (dfv emp : Bool) (k : Nat) (bs : List Int) (i : Int) (h0 : -2147483648 ≤ i) (h1 : i < 2147483648) (hx : (bs.drop k).take 4 = leB i 4)
    (h : DecAt w base D S rb ro n c tr dfv emp k) (hin : Input w rb ro n c bs) (hkm : k + 4 ≤ n) :
    Calls Tryz.prog 131 #[.pointer (some ⟨D, 0, none⟩)] w fun e w' =>
      e = .returned (.int .i32 i) ∧ DecAt w' base D S rb ro n c tr dfv emp (k + 4) ∧ Keeps (fun x => x = D ∨ x = S) w w' ∧ Below base w w' := by
  obtain ⟨_, c3, _, _, _⟩ := h.cells
  have hx' := Lib.hid hx; clear hx
  have h01 := Lib.hid (And.intro h0 h1); clear h0 h1
  go_enter Tryz.func131, Tryz.ntmps131
  go_wp2_with fail
  refine (readScr w base D S rb ro n c tr dfv emp k bs h hin 4 4096 (by decide) hkm).mono ?_
  rintro e w1 ⟨rfl, hd1, hc, hk, hb⟩
  have hx := hx'.out
  have q0 : w1.cell? ⟨S, 0, none⟩ = some (.int .u8 (i % 256)) := by rw [hc 0 (by decide), leAt hx 0 (by decide) (by have := hin.len; omega)]; rfl
  have q1 : w1.cell? ⟨S, 1, none⟩ = some (.int .u8 (i / 256 % 256)) := by rw [hc 1 (by decide), leAt hx 1 (by decide) (by have := hin.len; omega)]; rfl
  have q2 : w1.cell? ⟨S, 2, none⟩ = some (.int .u8 (i / 256 / 256 % 256)) := by rw [hc 2 (by decide), leAt hx 2 (by decide) (by have := hin.len; omega)]; rfl
  have q3 : w1.cell? ⟨S, 3, none⟩ = some (.int .u8 (i / 256 / 256 / 256 % 256)) := by rw [hc 3 (by decide), leAt hx 3 (by decide) (by have := hin.len; omega)]; rfl
  clear hc hx
  obtain ⟨_, c3, _, _, _⟩ := hd1.cells
  have hG := Lib.hid (get32 w1.drew S 0 4 4096 (by decide) (i % 256) (i / 256 % 256) (i / 256 / 256 % 256) (i / 256 / 256 / 256 % 256) (by omega) (by omega) (by omega) (by omega) (by simpa using q0) (by simpa using q1) (by simpa using q2) (by simpa using q3))
  clear q0 q1 q2 q3
  go_wp2_with fail
  go_region_with (refine hG.out.mono ?_; rintro e w2 ⟨rfl, hb2⟩)
  all_goals go_wp2_with fail
  all_goals go_ret
  all_goals obtain ⟨h0, h1⟩ := h01.out
  all_goals have hb2' : Below w1.heap.size w1 w2 := (Below.drew (Below.refl _ w1)).trans hb2
  all_goals refine ⟨?_, hd1.keep (Below.keeps hb2') id id, hk.trans (Below.keeps hb2') (fun _ _ x => x.elim), hb.trans (hb2'.mono (by have := hd1.lo.1; have := sizeOf_blk hd1.dec; omega))⟩
  all_goals show Ending.returned (Value.int _ _) = _
  all_goals rw [leSum4, wrapI32 i h0 h1]

set_option maxRecDepth 100000 in
theorem decInt64 (w : World) (base D S rb ro n c : Nat) (tr : Value) (dfv emp : Bool) (k : Nat) (bs : List Int) (i : Int) (h0 : -9223372036854775808 ≤ i) (h1 : i < 9223372036854775808) (hx : (bs.drop k).take 8 = leB i 8)
    (h : DecAt w base D S rb ro n c tr dfv emp k) (hin : Input w rb ro n c bs) (hkm : k + 8 ≤ n) :
    Calls Tryz.prog 132 #[.pointer (some ⟨D, 0, none⟩)] w fun e w' =>
      e = .returned (.int .i64 i) ∧ DecAt w' base D S rb ro n c tr dfv emp (k + 8) ∧ Keeps (fun x => x = D ∨ x = S) w w' ∧ Below base w w' := by
  obtain ⟨_, c3, _, _, _⟩ := h.cells
  have hx' := Lib.hid hx; clear hx
  have h01 := Lib.hid (And.intro h0 h1); clear h0 h1
  go_enter Tryz.func132, Tryz.ntmps132
  go_wp2_with fail
  refine (readScr w base D S rb ro n c tr dfv emp k bs h hin 8 4096 (by decide) hkm).mono ?_
  rintro e w1 ⟨rfl, hd1, hc, hk, hb⟩
  have hx := hx'.out
  have q0 : w1.cell? ⟨S, 0, none⟩ = some (.int .u8 (i % 256)) := by rw [hc 0 (by decide), leAt hx 0 (by decide) (by have := hin.len; omega)]; rfl
  have q1 : w1.cell? ⟨S, 1, none⟩ = some (.int .u8 (i / 256 % 256)) := by rw [hc 1 (by decide), leAt hx 1 (by decide) (by have := hin.len; omega)]; rfl
  have q2 : w1.cell? ⟨S, 2, none⟩ = some (.int .u8 (i / 256 / 256 % 256)) := by rw [hc 2 (by decide), leAt hx 2 (by decide) (by have := hin.len; omega)]; rfl
  have q3 : w1.cell? ⟨S, 3, none⟩ = some (.int .u8 (i / 256 / 256 / 256 % 256)) := by rw [hc 3 (by decide), leAt hx 3 (by decide) (by have := hin.len; omega)]; rfl
  have q4 : w1.cell? ⟨S, 4, none⟩ = some (.int .u8 (i / 256 / 256 / 256 / 256 % 256)) := by rw [hc 4 (by decide), leAt hx 4 (by decide) (by have := hin.len; omega)]; rfl
  have q5 : w1.cell? ⟨S, 5, none⟩ = some (.int .u8 (i / 256 / 256 / 256 / 256 / 256 % 256)) := by rw [hc 5 (by decide), leAt hx 5 (by decide) (by have := hin.len; omega)]; rfl
  have q6 : w1.cell? ⟨S, 6, none⟩ = some (.int .u8 (i / 256 / 256 / 256 / 256 / 256 / 256 % 256)) := by rw [hc 6 (by decide), leAt hx 6 (by decide) (by have := hin.len; omega)]; rfl
  have q7 : w1.cell? ⟨S, 7, none⟩ = some (.int .u8 (i / 256 / 256 / 256 / 256 / 256 / 256 / 256 % 256)) := by rw [hc 7 (by decide), leAt hx 7 (by decide) (by have := hin.len; omega)]; rfl
  clear hc hx
  obtain ⟨_, c3, _, _, _⟩ := hd1.cells
  have hG := Lib.hid (get64 w1.drew S 0 8 4096 (by decide) (i % 256) (i / 256 % 256) (i / 256 / 256 % 256) (i / 256 / 256 / 256 % 256) (i / 256 / 256 / 256 / 256 % 256) (i / 256 / 256 / 256 / 256 / 256 % 256) (i / 256 / 256 / 256 / 256 / 256 / 256 % 256) (i / 256 / 256 / 256 / 256 / 256 / 256 / 256 % 256) (by omega) (by omega) (by omega) (by omega) (by omega) (by omega) (by omega) (by omega) (by simpa using q0) (by simpa using q1) (by simpa using q2) (by simpa using q3) (by simpa using q4) (by simpa using q5) (by simpa using q6) (by simpa using q7))
  clear q0 q1 q2 q3 q4 q5 q6 q7
  go_wp2_with fail
  go_region_with (refine hG.out.mono ?_; rintro e w2 ⟨rfl, hb2⟩)
  all_goals go_wp2_with fail
  all_goals go_ret
  all_goals obtain ⟨h0, h1⟩ := h01.out
  all_goals have hb2' : Below w1.heap.size w1 w2 := (Below.drew (Below.refl _ w1)).trans hb2
  all_goals refine ⟨?_, hd1.keep (Below.keeps hb2') id id, hk.trans (Below.keeps hb2') (fun _ _ x => x.elim), hb.trans (hb2'.mono (by have := hd1.lo.1; have := sizeOf_blk hd1.dec; omega))⟩
  all_goals show Ending.returned (Value.int _ _) = _
  all_goals rw [leSum8, wrapI64 i h0 h1]

set_option maxRecDepth 100000 in
theorem decUint32 (w : World) (base D S rb ro n c : Nat) (tr : Value) (dfv emp : Bool) (k : Nat) (bs : List Int) (i : Int) (h0 : 0 ≤ i) (h1 : i < 4294967296) (hx : (bs.drop k).take 4 = leB i 4)
    (h : DecAt w base D S rb ro n c tr dfv emp k) (hin : Input w rb ro n c bs) (hkm : k + 4 ≤ n) :
    Calls Tryz.prog 191 #[.pointer (some ⟨D, 0, none⟩)] w fun e w' =>
      e = .returned (.int .u32 i) ∧ DecAt w' base D S rb ro n c tr dfv emp (k + 4) ∧ Keeps (fun x => x = D ∨ x = S) w w' ∧ Below base w w' := by
  obtain ⟨_, c3, _, _, _⟩ := h.cells
  have hx' := Lib.hid hx; clear hx
  have h01 := Lib.hid (And.intro h0 h1); clear h0 h1
  go_enter Tryz.func191, Tryz.ntmps191
  go_wp2_with fail
  refine (readScr w base D S rb ro n c tr dfv emp k bs h hin 4 4096 (by decide) hkm).mono ?_
  rintro e w1 ⟨rfl, hd1, hc, hk, hb⟩
  have hx := hx'.out
  have q0 : w1.cell? ⟨S, 0, none⟩ = some (.int .u8 (i % 256)) := by rw [hc 0 (by decide), leAt hx 0 (by decide) (by have := hin.len; omega)]; rfl
  have q1 : w1.cell? ⟨S, 1, none⟩ = some (.int .u8 (i / 256 % 256)) := by rw [hc 1 (by decide), leAt hx 1 (by decide) (by have := hin.len; omega)]; rfl
  have q2 : w1.cell? ⟨S, 2, none⟩ = some (.int .u8 (i / 256 / 256 % 256)) := by rw [hc 2 (by decide), leAt hx 2 (by decide) (by have := hin.len; omega)]; rfl
  have q3 : w1.cell? ⟨S, 3, none⟩ = some (.int .u8 (i / 256 / 256 / 256 % 256)) := by rw [hc 3 (by decide), leAt hx 3 (by decide) (by have := hin.len; omega)]; rfl
  clear hc hx
  obtain ⟨_, c3, _, _, _⟩ := hd1.cells
  have hG := Lib.hid (get32 w1.drew S 0 4 4096 (by decide) (i % 256) (i / 256 % 256) (i / 256 / 256 % 256) (i / 256 / 256 / 256 % 256) (by omega) (by omega) (by omega) (by omega) (by simpa using q0) (by simpa using q1) (by simpa using q2) (by simpa using q3))
  clear q0 q1 q2 q3
  go_wp2_with fail
  go_region_with (refine hG.out.mono ?_; rintro e w2 ⟨rfl, hb2⟩)
  all_goals go_wp2_with fail
  all_goals go_ret
  all_goals obtain ⟨h0, h1⟩ := h01.out
  all_goals have hb2' : Below w1.heap.size w1 w2 := (Below.drew (Below.refl _ w1)).trans hb2
  all_goals refine ⟨?_, hd1.keep (Below.keeps hb2') id id, hk.trans (Below.keeps hb2') (fun _ _ x => x.elim), hb.trans (hb2'.mono (by have := hd1.lo.1; have := sizeOf_blk hd1.dec; omega))⟩
  all_goals show Ending.returned (Value.int _ _) = _
  all_goals rw [leSum4, Int.emod_eq_of_lt h0 h1]

set_option maxRecDepth 100000 in
theorem decUint64 (w : World) (base D S rb ro n c : Nat) (tr : Value) (dfv emp : Bool) (k : Nat) (bs : List Int) (i : Int) (h0 : 0 ≤ i) (h1 : i < 18446744073709551616) (hx : (bs.drop k).take 8 = leB i 8)
    (h : DecAt w base D S rb ro n c tr dfv emp k) (hin : Input w rb ro n c bs) (hkm : k + 8 ≤ n) :
    Calls Tryz.prog 193 #[.pointer (some ⟨D, 0, none⟩)] w fun e w' =>
      e = .returned (.int .u64 i) ∧ DecAt w' base D S rb ro n c tr dfv emp (k + 8) ∧ Keeps (fun x => x = D ∨ x = S) w w' ∧ Below base w w' := by
  obtain ⟨_, c3, _, _, _⟩ := h.cells
  have hx' := Lib.hid hx; clear hx
  have h01 := Lib.hid (And.intro h0 h1); clear h0 h1
  go_enter Tryz.func193, Tryz.ntmps193
  go_wp2_with fail
  refine (readScr w base D S rb ro n c tr dfv emp k bs h hin 8 4096 (by decide) hkm).mono ?_
  rintro e w1 ⟨rfl, hd1, hc, hk, hb⟩
  have hx := hx'.out
  have q0 : w1.cell? ⟨S, 0, none⟩ = some (.int .u8 (i % 256)) := by rw [hc 0 (by decide), leAt hx 0 (by decide) (by have := hin.len; omega)]; rfl
  have q1 : w1.cell? ⟨S, 1, none⟩ = some (.int .u8 (i / 256 % 256)) := by rw [hc 1 (by decide), leAt hx 1 (by decide) (by have := hin.len; omega)]; rfl
  have q2 : w1.cell? ⟨S, 2, none⟩ = some (.int .u8 (i / 256 / 256 % 256)) := by rw [hc 2 (by decide), leAt hx 2 (by decide) (by have := hin.len; omega)]; rfl
  have q3 : w1.cell? ⟨S, 3, none⟩ = some (.int .u8 (i / 256 / 256 / 256 % 256)) := by rw [hc 3 (by decide), leAt hx 3 (by decide) (by have := hin.len; omega)]; rfl
  have q4 : w1.cell? ⟨S, 4, none⟩ = some (.int .u8 (i / 256 / 256 / 256 / 256 % 256)) := by rw [hc 4 (by decide), leAt hx 4 (by decide) (by have := hin.len; omega)]; rfl
  have q5 : w1.cell? ⟨S, 5, none⟩ = some (.int .u8 (i / 256 / 256 / 256 / 256 / 256 % 256)) := by rw [hc 5 (by decide), leAt hx 5 (by decide) (by have := hin.len; omega)]; rfl
  have q6 : w1.cell? ⟨S, 6, none⟩ = some (.int .u8 (i / 256 / 256 / 256 / 256 / 256 / 256 % 256)) := by rw [hc 6 (by decide), leAt hx 6 (by decide) (by have := hin.len; omega)]; rfl
  have q7 : w1.cell? ⟨S, 7, none⟩ = some (.int .u8 (i / 256 / 256 / 256 / 256 / 256 / 256 / 256 % 256)) := by rw [hc 7 (by decide), leAt hx 7 (by decide) (by have := hin.len; omega)]; rfl
  clear hc hx
  obtain ⟨_, c3, _, _, _⟩ := hd1.cells
  have hG := Lib.hid (get64 w1.drew S 0 8 4096 (by decide) (i % 256) (i / 256 % 256) (i / 256 / 256 % 256) (i / 256 / 256 / 256 % 256) (i / 256 / 256 / 256 / 256 % 256) (i / 256 / 256 / 256 / 256 / 256 % 256) (i / 256 / 256 / 256 / 256 / 256 / 256 % 256) (i / 256 / 256 / 256 / 256 / 256 / 256 / 256 % 256) (by omega) (by omega) (by omega) (by omega) (by omega) (by omega) (by omega) (by omega) (by simpa using q0) (by simpa using q1) (by simpa using q2) (by simpa using q3) (by simpa using q4) (by simpa using q5) (by simpa using q6) (by simpa using q7))
  clear q0 q1 q2 q3 q4 q5 q6 q7
  go_wp2_with fail
  go_region_with (refine hG.out.mono ?_; rintro e w2 ⟨rfl, hb2⟩)
  all_goals go_wp2_with fail
  all_goals go_ret
  all_goals obtain ⟨h0, h1⟩ := h01.out
  all_goals have hb2' : Below w1.heap.size w1 w2 := (Below.drew (Below.refl _ w1)).trans hb2
  all_goals refine ⟨?_, hd1.keep (Below.keeps hb2') id id, hk.trans (Below.keeps hb2') (fun _ _ x => x.elim), hb.trans (hb2'.mono (by have := hd1.lo.1; have := sizeOf_blk hd1.dec; omega))⟩
  all_goals show Ending.returned (Value.int _ _) = _
  all_goals rw [leSum8, Int.emod_eq_of_lt h0 h1]
end Go.Proofs.YtipoenpakjpokaaGreatDoor
