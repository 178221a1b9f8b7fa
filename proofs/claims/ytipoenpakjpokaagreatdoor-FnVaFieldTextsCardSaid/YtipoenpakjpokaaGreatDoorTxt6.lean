/- Texts: how the decoder reads their length and their bytes. -/
import Derived.Test.YtipoenpakjpokaaGreatDoorIntsDec
import Derived.Test.YtipoenpakjpokaaGreatDoorTxt5
set_option linter.unusedVariables false
set_option linter.unusedSimpArgs false
namespace Go.Proofs.YtipoenpakjpokaaGreatDoor
open Go.RowKit

set_option maxRecDepth 100000 in
theorem decVarInd (w : World) (base D S rb ro N c : Nat) (tr : Value) (dfv emp : Bool) (k : Nat) (bs : List Int) (n : Nat) (hn : n ≤ 3000) (hx : (bs.drop k).take (lenB n).length = lenB n)
    (h : DecAt w base D S rb ro N c tr dfv emp k) (hin : Input w rb ro N c bs) (hrb : rb < base) (hkm : k + (lenB n).length ≤ N) :
    Calls Tryz.prog 247 #[.pointer (some ⟨D, 0, none⟩)] w fun e w' =>
      e = .returned (.tuple #[.int .i64 (lenB n).length, .int .i64 n, .bool false]) ∧ DecAt w' base D S rb ro N c tr dfv emp (k + (lenB n).length) ∧ Below base w w' := by
  have hlen := hin.len
  have hll := lenB_le n
  have hx0 : bs[k]'(by omega) = (lenB n)[0]'(by omega) := by
    have e := congrArg (·[0]?) hx
    simp only [List.getElem?_take, List.getElem?_drop, Nat.add_zero] at e
    rw [if_pos (by omega), List.getElem?_eq_getElem (by omega), List.getElem?_eq_getElem (by omega)] at e
    exact Option.some.inj e
  have hP := decByte_any w base D S rb ro N c tr dfv emp k bs h hin (by omega)
  rw [hx0] at hP
  by_cases h2 : n ≤ 245
  · have hle : lenB n = [(n : Int)] := by simp [lenB, h2]
    simp only [hle, List.getElem_cons_zero, List.length_cons, List.length_nil, Nat.zero_add] at hP hx hkm ⊢
    clear hx hx0 hlen hll hle
    have hn0 : ¬ (n : Int) = 255 := by omega
    have hn1 : (n : Int) ≤ 245 := by omega
    replace hP := Lib.hid hP
    go_enter Tryz.func247, Tryz.ntmps247
    go_wp2_with fail
    refine hP.out.mono ?_
    rintro e w1 ⟨rfl, h1, hk1, hb1⟩
    go_wp2
    exact bodyPost_ret (v := .tuple #[.int .i64 1, .int .i64 n, .bool false]) (by simp [results, Tryz.results247, go_sem]) rfl ⟨rfl, h1, hb1⟩
  · have hle : lenB n = 246 :: leB n 2 := by simp [lenB, h2]
    simp only [hle, List.getElem_cons_zero, List.length_cons, leB_length] at hP hx hkm ⊢
    have hx2 : (bs.drop (k + 1)).take 2 = leB n 2 := by
      have e := congrArg (List.drop 1) hx
      rw [List.drop_take, List.drop_drop] at e
      simpa using e
    have hx2' := Lib.hid hx2
    clear hx hx0 hlen hll hle hx2
    have hn0 : ¬ (n : Int) ≤ 245 := by omega
    replace hP := Lib.hid hP
    go_enter Tryz.func247, Tryz.ntmps247
    go_wp2_with fail
    refine hP.out.mono ?_
    rintro e w1 ⟨rfl, h1, hk1, hb1⟩
    have hin1 := hin.below hb1 hrb
    go_wp2_with fail
    refine (decInt16 w1 base D S rb ro N c tr dfv emp (k + 1) bs n (by omega) (by omega) hx2'.out h1 hin1 (by omega)).mono ?_
    rintro e w2 ⟨rfl, h2, hk2, hb2⟩
    go_wp2
    exact bodyPost_ret (v := .tuple #[.int .i64 3, .int .i64 n, .bool false]) (by simp [results, Tryz.results247, go_sem]) rfl ⟨rfl, h2, hb1.trans hb2⟩

set_option maxRecDepth 100000 in
theorem zzRoom_any (w : World) (base D S rb ro N c : Nat) (tr : Value) (dfv emp : Bool) (k n : Nat) (h : DecAt w base D S rb ro N c tr dfv emp k) (hN : N ≤ 20000) (hkn : k + n ≤ N) :
    Calls Tryz.prog 248 #[.pointer (some ⟨D, 0, none⟩), .int .i64 n] w fun e w' => e = .returned (.int .i64 n) ∧ Below w.heap.size w w' := by
  have d0 : w.cell? ⟨D, 0, none⟩ = some (.slice (some ⟨rb, ro, none⟩) N c) := by rw [cellOf h.dec]; rfl
  have d1 : w.cell? ⟨D, 1, none⟩ = some (.int .i64 k) := by rw [cellOf h.dec]; rfl
  have e1 : IntKind.i64.wrap ((N : Int) - k) = (N : Int) - k := by simp [IntKind.wrap, IntKind.bits, IntKind.signed]; omega
  have e2 : IntKind.i64.wrap ((N : Int) - k + 1) = (N : Int) - k + 1 := by simp [IntKind.wrap, IntKind.bits, IntKind.signed]; omega
  have hm2 : (n : Int) ≤ (N : Int) - k + 1 := by omega
  have hm3 : ¬ ((N : Int) - k + 1) < n := by omega
  have hb : Hid (Below w.heap.size w w.drew) := (Below.refl _ w).drew
  clear h
  go_enter Tryz.func248, Tryz.ntmps248
  go_wp2
  go_region
  all_goals go_wp2
  all_goals go_ret
  all_goals refine ⟨?_, hb.out⟩
  all_goals first | rfl | (simp; try omega)

set_option maxRecDepth 100000 in
/-- Bytes are read into a row g of one's own. -/
theorem decBytesOwn (w : World) (base D S rb ro N c : Nat) (tr : Value) (dfv emp : Bool) (k : Nat) (bs : List Int) (h : DecAt w base D S rb ro N c tr dfv emp k) (hin : Input w rb ro N c bs)
    (g m cc : Nat) (G : List Value) (hg : w.heap[g]? = some (.cells G.toArray 5 (0, 0))) (hgS : g ≠ S) (hgb : base ≤ g) (hm : m ≤ G.length) (hkm : k + m ≤ N) :
    Calls Tryz.prog 249 #[.pointer (some ⟨D, 0, none⟩), .slice (some ⟨g, 0, none⟩) m cc] w fun e w' =>
      e = .returned (.tuple #[]) ∧ DecAt w' base D S rb ro N c tr dfv emp (k + m) ∧ w'.heap[g]? = some (.cells (splice G 0 (u8s ((bs.drop k).take m))).toArray 5 (0, 0)) ∧ Below base w w' := by
  obtain ⟨C, hC, hs⟩ := h.scr
  obtain ⟨tb, te, ht⟩ := h.tra
  have hd := h.dec
  have hTD : tb ≠ D := fun e => by rw [← e, ht] at hd; simp at hd
  have hTg : tb ≠ g := fun e => by rw [← e, ht] at hg; simp at hg
  have hSD : S ≠ D := fun e => by rw [← e, hs] at hd; simp at hd
  have hP := Lib.hid (readFull_any w base D S rb ro N c tr dfv emp k bs h hin g m cc G hg hm hkm)
  have hlo := h.lo
  have hz := sizeOf_blk hd
  replace te := Lib.hid te
  replace hC := Lib.hid hC
  go_enter Tryz.func249, Tryz.ntmps249
  go_wp2_with fail
  refine hP.out.mono ?_
  rintro e w1 ⟨rfl, hd1, hg1, hk⟩
  have hs1 := hk.at_ hs (fun x => x.elim hSD (fun e => hgS e.symm))
  have ht1 := hk.at_ ht (fun x => x.elim hTD hTg)
  have hb := hk.below (B := base) (by omega) (fun x hx e => by rcases e with e | e <;> omega)
  go_wp2
  go_end0
  exact ⟨rfl, ⟨hd1, ⟨C, hC.out, hs1⟩, hlo, ⟨tb, te.out, ht1⟩⟩, hg1, hb⟩

/-- Bytes that have been read into a row of their own. -/
def ReadRow (base : Nat) (w : World) (bs : List Int) (v : Value) : Prop := ∃ g c, v = .slice (some ⟨g, 0, none⟩) bs.length c ∧ base ≤ g ∧ g < w.heap.size ∧ Input w g 0 bs.length c bs

set_option maxRecDepth 100000 in
set_option maxHeartbeats 1000000 in
theorem liDec_any (w : World) (base D S rb ro N c : Nat) (tr : Value) (dfv emp : Bool) (k : Nat) (bs ts : List Int) (n : Nat) (hn : n ≤ 3000) (hts : ts.length = n) (hx : bs.drop k = lenB n ++ ts)
    (h : DecAt w base D S rb ro N c tr dfv emp k) (hin : Input w rb ro N c bs) (hrb : rb < base) (hN : N ≤ 20000) :
    Calls Tryz.prog 205 #[.pointer (some ⟨D, 0, none⟩)] w fun e w' =>
      ∃ m v, e = .returned (.tuple #[.int .i64 m, v]) ∧ ReadRow base w' ts v ∧ DecAt w' base D S rb ro N c tr dfv emp N ∧ Below base w w' := by
  have hlen := hin.len
  have hll := lenB_le n
  have hl : k + ((lenB n).length + n) = N := by
    have e := congrArg List.length hx
    simp only [List.length_drop, List.length_append, hts] at e
    omega
  have hx1 : (bs.drop k).take (lenB n).length = lenB n := by rw [hx]; simp
  have hx2 : (bs.drop (k + (lenB n).length)).take n = ts := by
    rw [← List.drop_drop, hx]
    simp [List.take_of_length_le, hts]
  have hV := Lib.hid (decVarInd w base D S rb ro N c tr dfv emp k bs n hn hx1 h hin hrb (by omega))
  have hx2' := Lib.hid hx2
  have hts' := Lib.hid hts
  have hl' := Lib.hid hl
  have hlo := h.lo
  clear hx hx1 hx2 hts hl hlen
  obtain ⟨i0, hi, hz0, hz1, hz2⟩ := info_parts Tryz.info5
  have hbig : (i0.bytes : Nat) * n ≤ 281474976710656 := by rw [hz2]; omega
  have hn' : n ≤ maxLen := by unfold maxLen; omega
  go_enter Tryz.func205, Tryz.ntmps205
  go_wp2_with fail
  refine hV.out.mono ?_
  rintro e w1 ⟨rfl, h1, hb1⟩
  have hin1 := hin.below hb1 hrb
  go_wp2_with fail
  refine (zzRoom_any w1 base D S rb ro N c tr dfv emp _ n h1 hN (by have := hl'.out; omega)).mono ?_
  rintro e w2 ⟨rfl, hb2⟩
  have h2 := h1.keep (Below.keeps hb2) id id
  have hw12 : base ≤ w1.heap.size := by have := sizeOf_blk h1.dec; omega
  have hin2 := hin1.below hb2 (by omega)
  clear h1 hin1 hV
  go_wp2_with (refine wpList_make_full _ rfl (.tmp 16) (.tmp 16) 22 rfl w2.heap.size 5 i0 (.int .u8 0) 1 Tryz.underlying22 hi hz0 hz1 .i64 .i64 _ _ n rfl rfl rfl rfl hbig hn' (Nat.le_refl _) ?_; intro w3 hown3 hg3)
  have hb3 : Below w2.heap.size w2 w3 := (Below.refl _ w2).grown hg3 (Nat.le_refl _) (fun _ h => by cases h)
  have h3 := h2.keep (Below.keeps hb3) id id
  have hz2 := hb2.size
  have hin3 := hin2.below hb3 (by omega)
  obtain ⟨_, h0 | ⟨g, cap, cur, hv, hgl, hgb, hnc, hcm, hcs, htk⟩⟩ := hown3
  · simp at h0
  simp only [Value.slice.injEq, Option.some.injEq, Addr.mk.injEq, and_true, true_and] at hv
  obtain ⟨rfl, rfl⟩ := hv
  have hgS : w2.heap.size ≠ S := by obtain ⟨C, _, hs⟩ := h2.scr; have := sizeOf_blk hs; omega
  have hl2 := hl'.out
  refine (decBytesOwn w3 base D S rb ro N c tr dfv emp _ bs h3 hin3 w2.heap.size n n cur.toList (by rw [Array.toArray_toList]; exact hgb) hgS (by omega) (by simp only [Array.length_toList]; omega) (by omega)).mono ?_
  rintro e w4 ⟨rfl, h4, hg4, hb4⟩
  rw [hx2'.out] at hg4
  have hin4 : Input w4 w2.heap.size 0 n n ts := by
    refine ⟨hts'.out, Nat.le_refl _, by omega, fun j hj => ?_⟩
    rw [cellOf hg4, Nat.zero_add, List.getElem?_toArray, splice_get j (by simpa using hj)]
    simp [u8s, List.getElem?_eq_getElem hj]
  have e4 : k + (lenB n).length + n = N := by omega
  rw [e4] at h4
  have hR : ReadRow base w4 ts (.slice (some ⟨w2.heap.size, 0, none⟩) n n) := ⟨w2.heap.size, n, by rw [hts'.out], by omega, sizeOf_blk hg4, by rw [hts'.out]; exact hin4⟩
  have hbE : Below base w w4 := ((hb1.trans (hb2.mono hw12)).trans (hb3.mono (by omega))).trans hb4
  clear h2 h3 hin2 hin3 hb1 hb2 hb3 hb4 hg4 hin4 hgb hl2 e4 hcs htk hi hz0 hz1 hbig hn' hx2' hts' hl' hg3 h hin
  go_wp2
  exact bodyPost_ret (v := .tuple #[_, .slice (some ⟨w2.heap.size, 0, none⟩) n n]) (by simp [results, Tryz.results205, go_sem]; rfl) rfl ⟨_, _, rfl, hR, h4, hbE⟩
end Go.Proofs.YtipoenpakjpokaaGreatDoor
