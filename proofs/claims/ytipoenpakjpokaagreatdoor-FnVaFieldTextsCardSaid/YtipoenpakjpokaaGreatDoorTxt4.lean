/- Texts of ASCII: CESU-8 is what they are. -/
import Derived.Test.YtipoenpakjpokaaGreatDoorTxt0
set_option linter.unusedVariables false
set_option linter.unusedSimpArgs false
namespace Go.Proofs.YtipoenpakjpokaaGreatDoor
open Go.RowKit

/-- Another scratch row: the encoder is as it was. -/
theorem EncAt.scratch {w w' : World} {base E S W : Nat} {tr : Value} {xs : List Int} (h : EncAt w base E S W tr xs) (hk : Keeps (fun k => k = S) w w') {C : Array Value} (hC : C.size = 4096) (hs' : w'.heap[S]? = some (.cells C 5 (0, 0))) : EncAt w' base E S W tr xs ∧ Below base w w' := by
  obtain ⟨v, ⟨hv, ho⟩, hS⟩ := h.wr
  obtain ⟨C0, hC0, hs⟩ := h.scr
  obtain ⟨tb, te, ht⟩ := h.tra
  have he := h.enc
  have hTS : tb ≠ S := fun e => by rw [← e, ht] at hs; simp at hs
  have hES : E ≠ S := fun e => by rw [← e, he] at hs; simp at hs
  have hWS : W ≠ S := fun e => by rw [← e, hv] at hs; simp at hs
  refine ⟨⟨hk.at_ he hES, ⟨C, hC, hs'⟩, ⟨v, ⟨hk.at_ hv hWS, hk.ownsRow ho (fun k e x => hS (by rw [e, x]))⟩, hS⟩, h.lo, ⟨tb, te, hk.at_ ht hTS⟩⟩, ?_⟩
  have := h.lo.2.1
  have := sizeOf_blk hs
  exact hk.below (by omega) (fun k hk' e => by omega)

set_option maxRecDepth 100000 in
set_option maxHeartbeats 2000000 in
theorem cesuBytes_any (w : World) (base E S W : Nat) (tr : Value) (xs bs : List Int) (h : EncAt w base E S W tr xs) (b o n c : Nat) (hin : Input w b o n c bs) (hbS : b ≠ S) (hbl : b < w.heap.size) (has : Ascii bs) (hn : n ≤ 3000) (hl : xs.length ≤ 2000) :
    Calls Tryz.prog 185 #[.pointer (some ⟨E, 0, none⟩), .slice (some ⟨b, o, none⟩) n c] w fun e w' =>
      e = .returned (.tuple #[.int .i64 n, .nilIface]) ∧ EncAt w' base E S W tr (xs ++ bs) ∧ Below base w w' := by
  obtain ⟨tb, htr, ht⟩ := h.tra
  have hR := encReset tb w ht
  have he := h.enc
  have c2 : w.cell? ⟨E, 2, none⟩ = some (.iface 108 (.pointer (some ⟨tb, 0, none⟩))) := by rw [cellOf he, htr]; rfl
  have hbw : base ≤ w.heap.size := by have := h.lo.1; have := sizeOf_blk he; omega
  clear he
  have h0 := h.keep ((Below.refl _ w).alloc (Nat.le_refl _) (.cells #[] 200))
  have hb1 : Below base w (w.alloc (.cells #[] 200)) := (Below.refl base w).alloc hbw _
  have hi0 := hin.below ((Below.refl _ w).alloc (Nat.le_refl _) (.cells #[] 200)) hbl
  have hlen0 := Lib.hid hin.len
  replace htr := Lib.hid htr
  clear ht h hin hbl
  go_enter Tryz.func185, Tryz.ntmps185
  go_wp2_with (go_at_call 357; go_in)
  go_end0
  go_wp2_with fail
  clear hR c2
  go_loopw [6, 7] (fun m i wr => ∃ k : Nat, (k = 0 ∨ k = n) ∧ k ≤ n ∧ m = .int .i64 k ∧ i = .int .i64 k ∧ EncAt wr base E S W tr (xs ++ bs.take k) ∧ Below base w wr ∧ (k = 0 → Input wr b o n c bs)) (fun m i _ => n - (intOf i).toNat)
  case atStart => exact ⟨0, .inl rfl, Nat.zero_le _, rfl, rfl, by simpa using h0, hb1, fun _ => hi0⟩
  case round =>
    obtain ⟨k, hk0, hk, rfl, rfl, hE, hbr, hir⟩ := hrel
    clear h0 hb1 hi0
    by_cases hlt : k < n
    · obtain rfl : k = 0 := by omega
      clear hk0 hk
      have hinr := hir rfl
      have hlen := hinr.len
      have hcap := hinr.cap
      clear hir
      have hnc : ¬ c = 0 := by omega
      obtain ⟨C, hC, hs⟩ := hE.scr
      have he := hE.enc
      have hlo := hE.lo
      rw [htr.out] at he
      have hne := hbS
      have c0 : wr.cell? ⟨E, 0, none⟩ = some (.pointer (some ⟨W, 0, none⟩)) := by rw [cellOf he]; rfl
      have c1 : wr.cell? ⟨E, 1, none⟩ = some (.slice (some ⟨S, 0, none⟩) 4096 4096) := by rw [cellOf he]; rfl
      have c2 : wr.cell? ⟨E, 2, none⟩ = some (.iface 108 (.pointer (some ⟨tb, 0, none⟩))) := by rw [cellOf he]; rfl
      have hT := encTransform
      have hP := Lib.hid (trEnc wr.drew ⟨tb, 0, none⟩ S 4096 4096 C.toList (show wr.heap[S]? = _ by rw [Array.toArray_toList]; exact hs) (by simp [hC]) b o n c bs (hinr.kept (Keeps.refl (fun _ => False) wr).drew id) hne (by omega) hn has)
      have hE' := Lib.hid hE
      have hbr' := Lib.hid hbr
      have hlen' := Lib.hid hlen
      have hC' := Lib.hid hC
      have htr' := htr
      clear he hinr hE hbr hlen hs hC hlo has
      have hn0 : (0 : Int) < n := by omega
      go_wp2_with fail
      go_region_with (refine hP.out.mono ?_; rintro e w2 ⟨rfl, hs2, hk2⟩)
      all_goals
        obtain ⟨hE2, hb2⟩ := hE'.out.drew.scratch hk2 (C := (rowAt C.toList bs n).toArray) (by rw [List.size_toArray, rowAt_length _ _ _ (by rw [hlen'.out]; exact Nat.le_refl _) (by rw [Array.length_toList, hC'.out]; omega), Array.length_toList, hC'.out]) hs2
        have he2 := hE2.enc
        have d0 : w2.cell? ⟨E, 0, none⟩ = some (.pointer (some ⟨W, 0, none⟩)) := by rw [cellOf he2]; rfl
        have d1 : w2.cell? ⟨E, 1, none⟩ = some (.slice (some ⟨S, 0, none⟩) 4096 4096) := by rw [cellOf he2]; rfl
        have hP2 := Lib.hid (encWrite w2.drew base E S W tr _ bs hE2.drew S 0 n 4096 hlen'.out (fun j hj => (show w2.cell? ⟨S, 0 + j, none⟩ = _ by rw [cellOf hs2, Nat.zero_add, List.getElem?_toArray, rowAt_get _ _ _ _ (by have := hlen'.out; omega) (by rw [hlen'.out]; exact Nat.le_refl _)])) (by rw [hlen'.out]; simp; omega))
        have hb2' := Lib.hid ((Below.drew hbr'.out).trans hb2)
        clear hE2 hb2 he2 hs2 hk2 hP c0 c1 c2 hT
        go_wp2_with fail
      all_goals go_region_with (refine hP2.out.mono ?_; rintro e w3 ⟨rfl, hE3, hb3⟩)
      all_goals
        go_wp2
        go_roundw
        case rel => exact ⟨n, .inr rfl, Nat.le_refl _, by go_num, by go_num, by rw [List.take_of_length_le (by rw [hlen'.out]; exact Nat.le_refl _)]; simpa using hE3, (Below.drew hb2'.out).trans hb3, fun h => absurd h (by omega)⟩
        case measure => simp [intOf]; omega
    · obtain rfl : k = n := by omega
      clear hk0 hir
      have hlen := hlen0.out
      rw [List.take_of_length_le (by omega)] at hE
      go_wp2
      exact bodyPost_ret (v := .tuple #[.int .i64 k, .nilIface]) (by simp [results, Tryz.results185, go_sem]) rfl ⟨rfl, hE, hbr⟩
end Go.Proofs.YtipoenpakjpokaaGreatDoor
