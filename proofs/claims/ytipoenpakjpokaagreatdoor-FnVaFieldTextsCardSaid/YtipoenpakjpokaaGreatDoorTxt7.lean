/- Texts: the decoder's fields of texts. -/
import Derived.Test.YtipoenpakjpokaaGreatDoorTxt6
import Derived.Lib.SliceRun
set_option linter.unusedVariables false
set_option linter.unusedSimpArgs false
namespace Go.Proofs.YtipoenpakjpokaaGreatDoor
open Go.RowKit

@[go_sem] theorem eqlNone (w : World) (a : Addr) (l c : Nat) : (binOp .eql 22 (.slice (some a) l c) (.slice none 0 0)).run Tryz.prog w = .ok (.bool false) w :=
  Lib.run_eql_slice_nil w 22 5 (some a) l c 0 0 Tryz.underlying22

set_option maxRecDepth 100000 in
theorem varDec_any (w : World) (base D S rb ro N c : Nat) (tr : Value) (dfv emp : Bool) (k : Nat) (bs ts : List Int) (n : Nat) (hn : n ≤ 3000) (hts : ts.length = n) (hx : bs.drop k = lenB n ++ ts)
    (h : DecAt w base D S rb ro N c tr dfv emp k) (hin : Input w rb ro N c bs) (hrb : rb < base) (hN : N ≤ 20000) :
    Calls Tryz.prog 146 #[.pointer (some ⟨D, 0, none⟩)] w fun e w' =>
      ∃ v, e = .returned (.tuple #[.iface 22 v, .nilIface]) ∧ ReadRow base w' ts v ∧ DecAt w' base D S rb ro N c tr dfv emp N ∧ Below base w w' := by
  have hP := Lib.hid (liDec_any w base D S rb ro N c tr dfv emp k bs ts n hn hts hx h hin hrb hN)
  clear h hin hx hts
  go_enter Tryz.func146, Tryz.ntmps146
  go_wp2_with fail
  refine hP.out.mono ?_
  rintro e w1 ⟨m, v, rfl, hR, h1, hb⟩
  have hR' := Lib.hid hR
  obtain ⟨g, cc, rfl, _, _, _⟩ := hR
  clear hP
  go_wp2
  exact bodyPost_ret (v := .tuple #[.iface 22 (.slice (some ⟨g, 0, none⟩) ts.length cc), .nilIface]) (by simp [results, Tryz.results146, go_sem]) rfl ⟨_, rfl, hR'.out, h1, hb⟩

set_option maxRecDepth 100000 in
theorem alnumDec_any (w : World) (base D S rb ro N c : Nat) (tr : Value) (emp : Bool) (k : Nat) (bs ts : List Int) (n : Nat) (hn : n ≤ 3000) (hts : ts.length = n) (hx : bs.drop k = lenB n ++ ts)
    (h : DecAt w base D S rb ro N c tr true emp k) (hin : Input w rb ro N c bs) (hrb : rb < base) (hN : N ≤ 20000) :
    Calls Tryz.prog 147 #[.pointer (some ⟨D, 0, none⟩)] w fun e w' =>
      ∃ v, e = .returned (.tuple #[.iface 22 v, .nilIface]) ∧ ReadRow base w' ts v ∧ DecAt w' base D S rb ro N c tr true emp N ∧ Below base w w' := by
  have hP := Lib.hid (varDec_any w base D S rb ro N c tr true emp k bs ts n hn hts hx h hin hrb hN)
  obtain ⟨_, _, _, _, c6⟩ := h.cells
  clear h hin hx hts
  go_enter Tryz.func147, Tryz.ntmps147
  go_wp2_with fail
  refine hP.out.mono ?_
  rintro e w1 ⟨v, rfl, hR, h1, hb⟩
  clear hP
  go_wp2
  exact bodyPost_ret (v := .tuple #[.iface 22 v, .nilIface]) (by simp [results, Tryz.results147, go_sem]) rfl ⟨_, rfl, hR, h1, hb⟩

theorem ReadRow.kept {base : Nat} {w w' : World} {bs : List Int} {v : Value} (h : ReadRow base w bs v) (hk : Keeps (fun _ => False) w w') : ReadRow base w' bs v := by
  obtain ⟨g, c, h1, h2, h3, h4⟩ := h
  exact ⟨g, c, h1, h2, Nat.lt_of_lt_of_le h3 hk.size, h4.kept hk id⟩

theorem shortNil (w : World) : (Instr.typeAssert .nilIface 48 308 true).run Tryz.prog w = .ok (.tuple #[.agg #[.bool false], .bool false]) w := by kernel_rfl

theorem decAhead (a : Addr) (w : World) : (nilAhead 482 131 (.pointer (some a)) "Transform").run Tryz.prog w = .ok (some false) w := by kernel_rfl

set_option maxRecDepth 100000 in
set_option maxHeartbeats 1000000 in
/-- What transform.Bytes makes of ASCII. -/
theorem trBytes_any (w : World) (base tb b o n c : Nat) (bs : List Int) (ht : w.heap[tb]? = some (.cells #[.nilFunc] 234 (0, 0))) (hin : Input w b o n c bs) (hbl : b < w.heap.size) (has : Ascii bs) (hn : n ≤ 3000) (hbase : base ≤ w.heap.size) :
    Calls Tryz.prog 273 #[.iface 131 (.pointer (some ⟨tb, 0, none⟩)), .slice (some ⟨b, o, none⟩) n c] w fun e w' =>
      ∃ v, e = .returned (.tuple #[v, .int .i64 n, .nilIface]) ∧ ReadRow base w' bs v ∧ Below w.heap.size w w' := by
  have hR := decReset tb w ht
  have hT := decTransform
  have hA := decAhead
  have hSN := shortNil
  obtain ⟨i0, hi, hz0, hz1, hz2⟩ := info_parts Tryz.info5
  have hbig : (i0.bytes : Nat) * n ≤ 281474976710656 := by rw [hz2]; omega
  have hn' : n ≤ maxLen := by unfold maxLen; omega
  have hlen := Lib.hid hin.len
  have hb0 : Below w.heap.size w (w.alloc (.cells #[] 200)) := (Below.refl _ w).alloc (Nat.le_refl _) _
  have hin' := Lib.hid (hin.below hb0 hbl)
  have hs0 : (w.alloc (.cells #[] 200)).heap.size = w.heap.size + 1 := by simp
  clear hin ht
  go_enter Tryz.func273, Tryz.ntmps273
  go_wp2_with (go_at_call 357; go_in)
  go_end0
  clear hR
  go_wp2_with (refine wpList_make_full _ rfl (.tmp 16) (.tmp 16) 22 rfl w.heap.size 5 i0 (.int .u8 0) 1 Tryz.underlying22 hi hz0 hz1 .i64 .i64 _ _ n rfl rfl rfl rfl hbig hn' (by simp) ?_; intro w3 hown3 hg3)
  have hb3 : Below w.heap.size w w3 := hb0.grown hg3 (by omega) (fun _ h => by cases h)
  have hin3 := hin'.out.below ((Below.refl _ _).grown hg3 (Nat.le_refl _) (fun _ h => by cases h)) (by omega)
  obtain ⟨_, h0 | ⟨g, cap, cur, hv, hgl, hgb, hnc, hcm, hcs, htk⟩⟩ := hown3
  · simp at h0
  simp only [Value.slice.injEq, Option.some.injEq, Addr.mk.injEq, and_true, true_and] at hv
  obtain ⟨hg, rfl⟩ := hv
  have hgs : w.heap.size + 1 = g := by rw [← hg, hs0]
  clear hg
  subst hgs
  have hgb2 : w3.drew.heap[w.heap.size + 1]? = some (.cells cur.toList.toArray 5 (0, 0)) := by rw [Array.toArray_toList]; exact hgb
  have hP := Lib.hid (trDec w3.drew ⟨tb, 0, none⟩ (w.heap.size + 1) n n cur.toList hgb2 (by simp only [Array.length_toList]; omega) b o n c bs (hin3.kept (Keeps.refl (fun _ => False) w3).drew id) (by omega) (Nat.le_refl _) hn has)
  have hcs' := Lib.hid hcs
  have hb3' := Lib.hid hb3
  clear hin3 hgb hgb2 hcs hb3 hin' hg3 hb0 has htk hcm
  refine wp_loop_rounds 1 ?_
  rw [rounds_succ]
  go_wp2_with fail
  go_region_with (refine hP.out.mono ?_; rintro e w2 ⟨rfl, hs2, hk2⟩)
  all_goals
    have hb4 : Below w.heap.size w w2 := (hb3'.out.trans (show Below w.heap.size w3 w3.drew from ⟨rfl, rfl, rfl, Nat.le_refl _, fun _ _ => rfl⟩)).trans (hk2.below (by have := hb3'.out.size; show _ ≤ w3.heap.size; omega) (fun k hk e => by omega))
    have hR : ReadRow base w2 bs (.slice (some ⟨w.heap.size + 1, 0, none⟩) n n) := by
      have hl := hlen.out
      refine ⟨w.heap.size + 1, n, by rw [hl], by omega, sizeOf_blk hs2, ⟨rfl, by omega, by omega, fun j hj => ?_⟩⟩
      rw [cellOf hs2, Nat.zero_add, List.getElem?_toArray, rowAt_get _ _ _ _ (by omega) (by omega)]
    clear hs2 hk2 hb3' hP hA hT hcs'
    go_wp2_with (go_at_call 238; go_in)
    have hk5 : Keeps (fun _ => False) w2 (w2.alloc (.cells #[.bool false] 308)) := (Keeps.refl _ w2).alloc _
    have hR5 := hR.kept hk5
    have hb5 := hb4.alloc (Nat.le_trans (Nat.le_refl _) hb4.size) (.cells #[.bool false] 308)
    exact bodyPost_ret (v := .tuple #[.slice (some ⟨w.heap.size + 1, 0, none⟩) n n, .int .i64 n, .nilIface]) (by simp [results, Tryz.results273, go_sem]) rfl ⟨_, rfl, hR5, hb5⟩
end Go.Proofs.YtipoenpakjpokaaGreatDoor
