/- Texts: the decoder's CESU-8. -/
import Derived.Test.YtipoenpakjpokaaGreatDoorTxt7
set_option linter.unusedVariables false
set_option linter.unusedSimpArgs false
namespace Go.Proofs.YtipoenpakjpokaaGreatDoor
open Go.RowKit

set_option maxRecDepth 100000 in
set_option maxHeartbeats 1000000 in
theorem cesuDec_any (w : World) (base D S rb ro N c : Nat) (tr : Value) (dfv emp : Bool) (k : Nat) (bs ts : List Int) (n : Nat) (hn : n ≤ 3000) (hts : ts.length = n) (hx : bs.drop k = ts) (has : Ascii ts)
    (h : DecAt w base D S rb ro N c tr dfv emp k) (hin : Input w rb ro N c bs) (hkn : k + n = N) :
    Calls Tryz.prog 250 #[.pointer (some ⟨D, 0, none⟩), .int .i64 n] w fun e w' =>
      ∃ v, e = .returned (.tuple #[v, .nilIface]) ∧ ReadRow base w' ts v ∧ DecAt w' base D S rb ro N c tr dfv emp N ∧ Below base w w' := by
  obtain ⟨c2, c3, c4, _, _⟩ := h.cells
  have hnb : ¬ (4096 : Int) < n := by omega
  have hnc : (n : Int) ≤ 4096 := by omega
  have hlen := hin.len
  have hbk : ∀ j (h1 : k + j < bs.length) (h2 : j < ts.length), bs[k + j] = ts[j] := by
    intro j hj1 hj2
    have e := congrArg (·[j]?) hx
    simp only [List.getElem?_drop] at e
    rw [List.getElem?_eq_getElem hj1, List.getElem?_eq_getElem hj2] at e
    exact Option.some.inj e
  have hR0 : Calls Tryz.prog 128 #[.pointer (some ⟨D, 0, none⟩), .slice (some ⟨S, 0, none⟩) n 4096] w fun e w' =>
      e = .returned (.tuple #[.int .i64 n, .nilIface]) ∧ DecAt w' base D S rb ro N c tr dfv emp N ∧ (∀ j (h2 : j < ts.length), w'.cell? ⟨S, j, none⟩ = some (.int .u8 ts[j])) ∧ Below base w w' := by
    refine (readScr w base D S rb ro N c tr dfv emp k bs h hin n 4096 (by omega) (by omega)).mono ?_
    rintro e w' ⟨rfl, a1, a2, a3, a4⟩
    refine ⟨rfl, ?_, fun j hj => ?_, a4⟩
    · rw [hkn] at a1; exact a1
    · rw [a2 j (by omega), hbk j (by omega) hj]
  have hR := Lib.hid hR0
  clear hR0
  have hts' := Lib.hid hts
  have has' := Lib.hid has
  clear h hin hx hbk hts hkn hlen has
  go_enter Tryz.func250, Tryz.ntmps250
  go_wp2_with fail
  refine hR.out.mono ?_
  rintro e w1 ⟨rfl, h1, hc1, hb1⟩
  obtain ⟨C, hC, hs1⟩ := h1.scr
  have hlo := h1.lo
  have hsz := sizeOf_blk hs1
  have hin1 : Input w1 S 0 n 4096 ts := ⟨hts'.out, by omega, by decide, fun j hj => by
    rw [Nat.zero_add, hc1 j hj]⟩
  obtain ⟨tb, te, ht⟩ := h1.tra
  obtain ⟨_, _, d4, _, _⟩ := h1.cells
  rw [te] at d4
  have hT := Lib.hid (trBytes_any w1 base tb S 0 n 4096 ts ht hin1 hsz has'.out hn (by omega))
  have hbase1 : base ≤ w1.heap.size := by omega
  have h1' := Lib.hid h1
  clear hR hc1 h1 hs1 hin1 te ht has' c2 c3 c4 hC hlo hsz
  go_wp2_with fail
  refine hT.out.mono ?_
  rintro e w2 ⟨v, rfl, hv, hb2⟩
  have h2 := h1'.out.keep (Below.keeps hb2) id id
  have hb := hb1.trans (hb2.mono hbase1)
  clear hT h1' hb1 hb2 d4
  go_wp2
  exact bodyPost_ret (v := .tuple #[v, .nilIface]) (by simp [results, Tryz.results250, go_sem]) rfl ⟨_, rfl, hv, h2, hb⟩

set_option maxRecDepth 100000 in
set_option maxHeartbeats 1000000 in
theorem cesuLiDec_any (w : World) (base D S rb ro N c : Nat) (tr : Value) (dfv emp : Bool) (k : Nat) (bs ts : List Int) (n : Nat) (hn : n ≤ 3000) (hts : ts.length = n) (hx : bs.drop k = lenB n ++ ts) (has : Ascii ts)
    (h : DecAt w base D S rb ro N c tr dfv emp k) (hin : Input w rb ro N c bs) (hrb : rb < base) (hkN : k ≤ N) :
    Calls Tryz.prog 206 #[.pointer (some ⟨D, 0, none⟩)] w fun e w' =>
      ∃ m v, e = .returned (.tuple #[m, v, .nilIface]) ∧ ReadRow base w' ts v ∧ DecAt w' base D S rb ro N c tr dfv emp N ∧ Below base w w' := by
  have hlen := hin.len
  have hl : k + (lenB n).length + n = N := by
    have := congrArg List.length hx
    simp only [List.length_drop, List.length_append] at this
    omega
  have hx1 : (bs.drop k).take (lenB n).length = lenB n := by rw [hx]; simp
  have hx2 : bs.drop (k + (lenB n).length) = ts := by
    rw [← List.drop_drop, hx]
    simp
  have hV := Lib.hid (decVarInd w base D S rb ro N c tr dfv emp k bs n hn hx1 h hin hrb (by omega))
  clear hx hx1
  have hx2' := Lib.hid hx2
  have hts' := Lib.hid hts
  have hl' := Lib.hid hl
  have has' := Lib.hid has
  clear hx2 hts hl hlen has
  go_enter Tryz.func206, Tryz.ntmps206
  go_wp2_with fail
  refine hV.out.mono ?_
  rintro e w1 ⟨rfl, h1, hb1⟩
  have hin1 := hin.below hb1 hrb
  have hC := Lib.hid (cesuDec_any w1 base D S rb ro N c tr dfv emp _ bs ts n hn hts'.out hx2'.out has'.out h1 hin1 hl'.out)
  clear h1 hin1 hV h hin
  go_wp2_with fail
  refine hC.out.mono ?_
  rintro e w2 ⟨v, rfl, hv, h2, hb2⟩
  have hb := hb1.trans hb2
  clear hC hb1 hb2 hx2' hts' hl' has'
  go_wp2
  exact bodyPost_ret (v := .tuple #[_, v, .nilIface]) (by simp [results, Tryz.results206, go_sem]; rfl) rfl ⟨_, _, rfl, hv, h2, hb⟩

set_option maxRecDepth 100000 in
theorem cesuFieldDec_any (w : World) (base D S rb ro N c : Nat) (tr : Value) (dfv emp : Bool) (k : Nat) (bs ts : List Int) (n : Nat) (hn : n ≤ 3000) (hts : ts.length = n) (hx : bs.drop k = lenB n ++ ts) (has : Ascii ts)
    (h : DecAt w base D S rb ro N c tr dfv emp k) (hin : Input w rb ro N c bs) (hrb : rb < base) (hkN : k ≤ N) :
    Calls Tryz.prog 148 #[.pointer (some ⟨D, 0, none⟩)] w fun e w' =>
      ∃ v, e = .returned (.tuple #[.iface 22 v, .nilIface]) ∧ ReadRow base w' ts v ∧ DecAt w' base D S rb ro N c tr dfv emp N ∧ Below base w w' := by
  have hP := Lib.hid (cesuLiDec_any w base D S rb ro N c tr dfv emp k bs ts n hn hts hx has h hin hrb hkN)
  clear h hin hx hts has
  go_enter Tryz.func148, Tryz.ntmps148
  go_wp2_with fail
  refine hP.out.mono ?_
  rintro e w1 ⟨m, v, rfl, hR, h1, hb⟩
  have hR' := Lib.hid hR
  obtain ⟨g, cc, rfl, _, _, _⟩ := hR
  clear hP
  go_wp2
  exact bodyPost_ret (v := .tuple #[.iface 22 (.slice (some ⟨g, 0, none⟩) ts.length cc), .nilIface]) (by simp [results, Tryz.results148, go_sem]) rfl ⟨_, rfl, hR'.out, h1, hb⟩
end Go.Proofs.YtipoenpakjpokaaGreatDoor
