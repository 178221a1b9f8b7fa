/- Texts: the walk of the law. -/
import Derived.Test.YtipoenpakjpokaaGreatDoorTxtI
import Derived.Laws.AppendOwnNone
set_option linter.unusedVariables false
set_option linter.unusedSimpArgs false
namespace Go.Proofs.YtipoenpakjpokaaGreatDoor
open Go.RowKit

theorem conv_inputO {w : World} {rb o n c : Nat} {bs : List Int} (h : Input w rb o n c bs) :
    (convert 22 9 (.slice (some ⟨rb, o, none⟩) n c)).run Tryz.prog w = .ok (.string (strOfNums bs)) w :=
  run_convert_bytes_arg w 22 5 Tryz.underlying22 Tryz.underlying5 rb o n c bs h.len (fun i hi => by
    have := h.cell i (by have := h.len; omega)
    rw [this, List.getD_eq_getElem?_getD, List.getElem?_eq_getElem (by have := h.len; omega)]; rfl) 9 Tryz.underlying9
theorem Input.newsO {w : World} {rb o n c : Nat} {bs : List Int} (h : Input w rb o n c bs) : ∀ j u, (u8s bs)[j]? = some u → w.cell? ((⟨rb, o, none⟩ : Addr).add j) = some u := by
  intro j u hj
  obtain ⟨hj', rfl⟩ := List.getElem?_eq_some_iff.1 hj
  simp only [List.length_map] at hj'
  simp only [List.getElem_map]
  rw [Addr.add_lit]
  exact h.cell j hj'
theorem own_some {w : World} {base n : Nat} {e : TypeId} {v : Value} {xs : List Value} (h : w.ownsRow base e 1 v n xs) (hv : v ≠ .slice none 0 0) : ∃ g c, v = .slice (some ⟨g, 0, none⟩) n c := by
  obtain ⟨_, ⟨h, _⟩ | ⟨g, cap, cur, rfl, _⟩⟩ := h
  · exact absurd h hv
  · exact ⟨g, cap, rfl⟩
theorem conv_zero (a : Addr) (w : World) : (convert 22 9 (.slice (some a) 0 0)).run Tryz.prog w = .ok (.string (strOfNums [])) w := by kernel_rfl
theorem emptyRow (w : World) : (w.alloc (.cells #[] 5)).ownsRow w.heap.size 5 1 (.slice (some ⟨w.heap.size, 0, none⟩) 0 0) 0 (u8s []) := World.ownsRow_lit w #[] 0 (Nat.le_refl _) (by decide) rfl
theorem keepsOf {B : Nat} {w w' : World} (h : Below B w w') : Keeps (fun k => B ≤ k) w w' := ⟨h.os, h.tape, h.output, h.size, fun k _ hT => h.block k (by omega)⟩
theorem ownsBelow {w w' : World} {B base n : Nat} {e : TypeId} {v : Value} {xs : List Value} (h : w.ownsRow base e 1 v n xs) (hb : Below B w w') (hB : w.heap.size ≤ B) : w'.ownsRow base e 1 v n xs :=
  (keepsOf hb).ownsRow h (fun k hk hT => by have := (h.lt k hk).2; omega)

set_option maxRecDepth 100000 in
set_option maxHeartbeats 2000000 in
theorem lawTexts0 (w : World) (which : Int) (h0 : 0 ≤ which) (h1 : which < 256) (b o n c : Nat) (ts : List Int) (hin : Input w b o n c ts) (hb : b < w.heap.size) (hu : ∀ x ∈ ts, 0 ≤ x ∧ x ≤ 255) (hn : n ≤ 2147483647) :
    Calls Tryz.prog 3 #[.int .u8 which, .slice (some ⟨b, o, none⟩) n c, .bool false] w fun e w' => e = .returned (.bool true) ∧ Below w.heap.size w w' := by
  have hlen := hin.len
  have hn0 : ¬ (2147483647 : Int) < n := by omega
  have hcell := Lib.hid hin.cell
  have hin' := Lib.hid hin
  have hu' := Lib.hid hu
  clear hin hu
  go_enter Tryz.func3, Tryz.ntmps3
  go_wp2_with fail
  go_loopw [25] (fun i wr => ∃ k : Nat, k ≤ n ∧ i = .int .i64 k ∧ wr = w ∧ ∀ j (hj : j < ts.length), j < k → ts[j] ≤ 127) (fun i _ => n - (intOf i).toNat)
  case atStart => exact ⟨0, Nat.zero_le _, rfl, rfl, fun j _ h => absurd h (by omega)⟩
  case round =>
    obtain ⟨k, hk, rfl, rfl, hall⟩ := hrel
    by_cases hlt : k < n
    · have hck := hcell.out k (by omega)
      have hi1 : IntKind.i64.wrap ((k : Int) + 1) = ((k + 1 : Nat) : Int) := by simp [IntKind.wrap, IntKind.bits, IntKind.signed]; omega
      by_cases hgt : ts[k]'(by omega) ≤ 127
      · have hgt' : ¬ 127 < ts[k]'(by omega) := by omega
        go_wp2_with fail
        go_roundw
        case rel =>
          refine ⟨k + 1, by omega, by go_num, by first | trivial | rfl, fun j hj hjk => ?_⟩
          by_cases e : j = k
          · subst e; exact hgt
          · exact hall j hj (by omega)
        case measure => simp [intOf]; omega
      · have hgt' : 127 < ts[k]'(by omega) := by omega
        go_wp2_with fail
        go_ret
        exact ⟨rfl, Below.refl _ _⟩
    · obtain rfl : k = n := by omega
      by_cases h3 : 3000 < k
      · have h3' : (3000 : Int) < k := by omega
        go_wp2_with fail
        go_ret
        exact ⟨rfl, Below.refl _ _⟩
      · have h3' : ¬ (3000 : Int) < k := by omega
        go_wp2_with fail
        refine (vaTexts_any wr).mono ?_
        rintro e w1 ⟨rfl, hw1⟩
        have hj : (which % 10).toNat < 10 := by omega
        obtain ⟨code, hcd, hvc⟩ := textCode _ hj
        have hk1 : w1.heap[wr.heap.size]? = some (.cells textCodes 3 (0, 0)) := by rw [← hw1]; exact blk_new _ _
        have hcode : w1.cell? ⟨wr.heap.size, (which % 10).toNat, none⟩ = some (.int .i64 code) := by rw [cellOf hk1]; exact hcd
        have hb1 : Below wr.heap.size wr w1 := by rw [← hw1]; exact (Below.refl _ wr).alloc (Nat.le_refl _) _
        have hin1 := Lib.hid (hin'.out.below hb1 hb)
        have hconv := conv_inputO hin1.out
        clear hk1 hw1 hin' hcell
        have hcr : 0 ≤ code ∧ code < 128 := by rcases hvc with (rfl | rfl | rfl | rfl | rfl | rfl) | (rfl | rfl | rfl | rfl) <;> decide
        have hcm : code % 256 = code := by omega
        have q2 : (w1.alloc (.cells noVal 36)).heap[w1.heap.size]? = some (.cells noVal 36 (0, 0)) := blk_new _ _
        obtain ⟨W2, hW2⟩ : ∃ W, W = (w1.alloc (.cells noVal 36)).setRow w1.heap.size (valCells 5 false 0 0 (.slice none 0 0) (strOfNums ts) false (.slice none 0 0) (.slice none 0 0)) := ⟨_, rfl⟩
        have q3 : W2.heap[w1.heap.size]? = some (.cells (valCells 5 false 0 0 (.slice none 0 0) (strOfNums ts) false (.slice none 0 0) (.slice none 0 0)) 36 (0, 0)) := by rw [hW2]; exact setRow_heap _ _ _ _ _ _ q2
        have hz1 := hb1.size
        have hb2 : Below w1.heap.size w1 W2 := by rw [hW2]; exact below_setRow ((Below.refl _ w1).alloc (Nat.le_refl _) _) (Nat.le_refl _) _
        have hz2 := sizeOf_blk q3
        have hW2' := Lib.hid hW2
        have hb2' := Lib.hid hb2
        have hvc' := Lib.hid hvc
        have hcd' := Lib.hid hcd
        clear hW2 hb2 hvc hcd
        go_wp2_with (refine store_val rfl (.tmp 10) (.tmp 43) rfl _ rfl (valCells 5 false 0 0 (.slice none 0 0) (strOfNums ts) false (.slice none 0 0) (.slice none 0 0)) rfl noVal q2 rfl rfl (by simp [Value.oneCell']) ?_; change wpList _ _ _ _ _ ((w1.alloc (.cells noVal 36)).setRow w1.heap.size (valCells 5 false 0 0 (.slice none 0 0) (strOfNums ts) false (.slice none 0 0) (.slice none 0 0))); rw [← hW2'.out])
        clear q2 hcode hconv
        have hqv := q3
        have hbv := hb2'.out
        have hzv := hz2
        refine (lengthBytes_any W2 k (by omega)).mono ?_
        rintro e w3 ⟨vl, rfl, hol, hb3⟩
        obtain ⟨gl, cl, rfl, _, hgl, hil⟩ := Input.of_row hol (by rw [lenB_length]; split <;> omega)
        have hil' := Lib.hid hil
        have q4 := (hb3.block _ hzv).trans hqv
        clear hol hil hqv
        have hLk := lenB_le k
        obtain ⟨L, hL⟩ : ∃ L, L = (lenB k).length := ⟨_, rfl⟩
        rw [← hL] at hil' hLk
        have hL' := Lib.hid hL
        rw [← hL'.out]
        clear hL
        go_wp2_with (refine load_val rfl (.tmp 10) rfl _ rfl _ q4 rfl ?_)
        have hnum := numsOf_str ts hu'.out
        have hasc : Ascii ts := fun x hx => by
          obtain ⟨j, hj, rfl⟩ := List.getElem_of_mem hx
          exact ⟨(hu'.out _ hx).1, hall j hj (by omega)⟩
        refine (fbText5 w3 code hvc'.out (strOfNums ts) (by rw [strOfNums_size]; omega) ts hnum (by omega) hasc).mono ?_
        rintro e w4 ⟨vo, rfl, hoo, hb4⟩
        obtain ⟨N, hN⟩ : ∃ N, N = ([code] ++ lenB ts.length ++ ts).length := ⟨_, rfl⟩
        rw [← hN] at hoo
        obtain ⟨g4, c4, rfl, hg4, hgl4, hio⟩ := Input.of_row hoo (by rw [hN]; simp)
        have hio' := Lib.hid hio
        have hN' := Lib.hid hN
        have hnum' := Lib.hid hnum
        have hasc' := Lib.hid hasc
        clear hoo hio q4 hN hnum hasc
        go_wp2_with fail
        refine (foText w4 code hvc'.out g4 N c4 ts hasc'.out (by omega) hio'.out hgl4).mono ?_
        rintro e w5 ⟨v5, B5, rfl, hv22, ⟨A5, m5, c5, rfl, ho5, hkB⟩, hB5, hb5⟩
        have ho5' := Lib.hid ho5
        clear ho5 hkB
        have q5 : (w5.alloc (.cells noVal 36)).heap[w5.heap.size]? = some (.cells noVal 36 (0, 0)) := blk_new _ _
        obtain ⟨W6, hW6⟩ : ∃ W, W = (w5.alloc (.cells noVal 36)).setRow w5.heap.size (plainVal 4 false 0 0 (.slice A5 m5 c5)) := ⟨_, rfl⟩
        have q6 : W6.heap[w5.heap.size]? = some (.cells (plainVal 4 false 0 0 (.slice A5 m5 c5)) 36 (0, 0)) := by rw [hW6]; exact setRow_heap _ _ _ _ _ _ q5
        have hb6 : Below w5.heap.size w5 W6 := by rw [hW6]; exact below_setRow ((Below.refl _ w5).alloc (Nat.le_refl _) _) (Nat.le_refl _) _
        have hz6 := sizeOf_blk q6
        have hzz3 := hb3.size
        have hzz4 := hb4.size
        have hzz5 := hb5.size
        have hlit := Lib.hid (litRow W6 code)
        have hb7 : Below W6.heap.size W6 (W6.alloc (.cells #[.int .u8 code] 5)) := (Below.refl _ W6).alloc (Nat.le_refl _) _
        have hN1 := Lib.hid (Input.newsO ((((hil'.out.below hb4 hgl).below hb5 (by omega)).below hb6 (by omega)).below hb7 (by omega)))
        have hli := hil'.out.len
        have hi7 := Lib.hid ((((((hin1.out.below hbv (by omega)).below hb3 (by omega)).below hb4 (by omega)).below hb5 (by omega)).below hb6 (by omega)))
        have hb7' := Lib.hid hb7
        have hb6' := Lib.hid hb6
        have q6' := Lib.hid q6
        have hW6' := Lib.hid hW6
        obtain ⟨j0, hj0, hj1, hj2, hj3⟩ := info_parts Tryz.info5
        have hli' := Lib.hid hli
        have hlL : (lenB ts.length).length = L := by rw [show ts.length = k by omega]; exact hL'.out.symm
        have hNk := Lib.hid (show 1 + L + k = N by rw [hN'.out]; simp [hlL, show ts.length = k by omega]; omega)
        have hN1' : 1 ≤ N := by have := hNk.out; omega
        have hN2 : N ≤ 4000 := by have := hNk.out; omega
        have hszN : ((szB ts.length : Nat) : Int) = (N : Int) - 1 := by have := hNk.out; unfold szB; rw [hlL]; omega
        have hTlen := Lib.hid (show ts.length = k by omega)
        rw [hTlen.out] at hszN
        clear hb7 hb6 q6 hW6 hli hlL
        go_wp2_with (first
          | (refine store_val rfl (.tmp 16) (.tmp 66) rfl _ rfl (plainVal 4 false 0 0 (.slice A5 m5 c5)) rfl noVal q5 rfl rfl (plain1 _ _ _ _ _ _ _) ?_; change wpList _ _ _ _ _ ((w5.alloc (.cells noVal 36)).setRow w5.heap.size (plainVal 4 false 0 0 (.slice A5 m5 c5))); rw [← hW6'.out])
          | (at_builtin
             refine wpList_append_own_at _ rfl (.tmp 71) (.tmp 72) 22 rfl W6.heap.size 5 j0 _ 1 1 Tryz.underlying22 hj0 hj1 hj2 hj3 rfl (by decide) (.slice (some ⟨W6.heap.size, 0, none⟩) 1 1) 1 (u8s [code]) rfl hlit.out ⟨gl, 0, none⟩ L cl (u8s (lenB k)) rfl (by simpa using hli'.out) hN1.out (u8s_one _) (by unfold maxLen; omega) (by omega) (by simp) ?_
             intro v8 w8 hown8 hgrow8 hnil8 hat8
             obtain ⟨g8, c8, hv8⟩ := own_some hown8 (fun e => by have := hnil8.1 e; simp at this)
             have hb8 := Lib.hid (hb7'.out.grown hgrow8 (by first | exact Nat.le_refl _ | simp) (fun x hx => by simp [Value.ownBlock] at hx; omega))
             replace hown8 := Lib.hid hown8
             clear hnil8 hat8 hgrow8
             subst hv8)
          | (at_builtin
             refine wpList_append_own_at _ rfl (.tmp 73) (.tmp 74) 22 rfl W6.heap.size 5 j0 _ 1 1 Tryz.underlying22 hj0 hj1 hj2 hj3 rfl (by decide) (.slice (some ⟨g8, 0, none⟩) (1 + L) c8) (1 + L) _ rfl hown8.out ⟨b, o, none⟩ k c (u8s ts) rfl (by simpa using hlen) (Input.newsO (hi7.out.below hb8.out (by omega))) (u8s_one _) (by unfold maxLen; omega) (by omega) (by have := hb8.out.size; omega) ?_
             intro v9 w9 hown9 hgrow9 hnil9 hat9
             rw [hNk.out] at hown9
             obtain ⟨g9, c9, hv9⟩ := own_some hown9 (fun e => by have := hnil9.1 e; simp at this)
             have hb9 := Lib.hid (hb8.out.grown hgrow9 (by have := hb8.out.size; omega) (fun x hx => by simp only [Value.ownBlock, Option.some.injEq] at hx; have := (hown8.out.lt g8 rfl).1; omega))
             replace hown9 := Lib.hid hown9
             clear hnil9 hat9 hgrow9
             subst hv9
             have hconvT : (convert 22 9 (.slice (some ⟨b, o, none⟩) k c)).run Tryz.prog w9 = .ok (.string (strOfNums ts)) w9 := conv_inputO (hi7.out.below hb9.out (by omega))
             have hb9q := (hb9.out.block _ hz6).trans q6'.out
             have hcv0 : (w9.cell? ⟨w5.heap.size, 0, none⟩) = some (.int .i64 4) := by rw [cellOf hb9q]; rfl
             have hcv4 : (w9.cell? ⟨w5.heap.size, 4, none⟩) = some (.slice A5 m5 c5) := by rw [cellOf hb9q]; rfl
             have hconvO : (convert 22 9 (.slice (some ⟨g4, 0, none⟩) N c4)).run Tryz.prog w9 = .ok (.string (strOfNums ([code] ++ lenB ts.length ++ ts))) w9 := conv_inputO (((hio'.out.below hb5 hgl4).below hb6'.out (by omega)).below hb9.out (by omega))
             have hconvW : (convert 22 9 (.slice (some ⟨g9, 0, none⟩) N c9)).run Tryz.prog w9 = .ok (.string (strOfNums ([code] ++ lenB ts.length ++ ts))) w9 := conv_any (bs := [code] ++ lenB ts.length ++ ts) (by have h := hown9.out; rw [← hTlen.out] at h; simpa [u8s] using h)
             have hconvB : (convert 22 9 (.slice A5 m5 c5)).run Tryz.prog w9 = .ok (.string (strOfNums ts)) w9 := conv_any (ownsBelow (ownsBelow ho5'.out hb6'.out (Nat.le_refl _)) hb9.out (Nat.le_refl _))
             clear hb9q))
        go_ret
        exact ⟨rfl, (((((hb1.trans (hbv.mono (by omega))).trans (hb3.mono (by have := hbv.size; omega))).trans (hb4.mono (by have := hbv.size; omega))).trans (hb5.mono (by have := hbv.size; omega))).trans (hb6'.out.mono (by have := hbv.size; omega))).trans (hb9.out.mono (by have := hbv.size; omega))⟩

set_option maxRecDepth 100000 in
set_option maxHeartbeats 2000000 in
theorem lawTexts1 (w : World) (which : Int) (h0 : 0 ≤ which) (h1 : which < 256) (b o n c : Nat) (ts : List Int) (hin : Input w b o n c ts) (hb : b < w.heap.size) (hu : ∀ x ∈ ts, 0 ≤ x ∧ x ≤ 255) (hn : n ≤ 2147483647) :
    Calls Tryz.prog 3 #[.int .u8 which, .slice (some ⟨b, o, none⟩) n c, .bool true] w fun e w' => e = .returned (.bool true) ∧ Below w.heap.size w w' := by
  have hlen := hin.len
  have hn0 : ¬ (2147483647 : Int) < n := by omega
  have hcell := Lib.hid hin.cell
  have hin' := Lib.hid hin
  have hu' := Lib.hid hu
  clear hin hu
  go_enter Tryz.func3, Tryz.ntmps3
  go_wp2_with fail
  go_loopw [25] (fun i wr => ∃ k : Nat, k ≤ n ∧ i = .int .i64 k ∧ wr = w ∧ ∀ j (hj : j < ts.length), j < k → ts[j] ≤ 127) (fun i _ => n - (intOf i).toNat)
  case atStart => exact ⟨0, Nat.zero_le _, rfl, rfl, fun j _ h => absurd h (by omega)⟩
  case round =>
    obtain ⟨k, hk, rfl, rfl, hall⟩ := hrel
    by_cases hlt : k < n
    · have hck := hcell.out k (by omega)
      have hi1 : IntKind.i64.wrap ((k : Int) + 1) = ((k + 1 : Nat) : Int) := by simp [IntKind.wrap, IntKind.bits, IntKind.signed]; omega
      by_cases hgt : ts[k]'(by omega) ≤ 127
      · have hgt' : ¬ 127 < ts[k]'(by omega) := by omega
        go_wp2_with fail
        go_roundw
        case rel =>
          refine ⟨k + 1, by omega, by go_num, by first | trivial | rfl, fun j hj hjk => ?_⟩
          by_cases e : j = k
          · subst e; exact hgt
          · exact hall j hj (by omega)
        case measure => simp [intOf]; omega
      · have hgt' : 127 < ts[k]'(by omega) := by omega
        go_wp2_with fail
        go_ret
        exact ⟨rfl, Below.refl _ _⟩
    · obtain rfl : k = n := by omega
      by_cases h3 : 3000 < k
      · have h3' : (3000 : Int) < k := by omega
        go_wp2_with fail
        go_ret
        exact ⟨rfl, Below.refl _ _⟩
      · have h3' : ¬ (3000 : Int) < k := by omega
        go_wp2_with fail
        refine (vaTexts_any wr).mono ?_
        rintro e w1 ⟨rfl, hw1⟩
        have hj : (which % 10).toNat < 10 := by omega
        obtain ⟨code, hcd, hvc⟩ := textCode _ hj
        have hk1 : w1.heap[wr.heap.size]? = some (.cells textCodes 3 (0, 0)) := by rw [← hw1]; exact blk_new _ _
        have hcode : w1.cell? ⟨wr.heap.size, (which % 10).toNat, none⟩ = some (.int .i64 code) := by rw [cellOf hk1]; exact hcd
        have hb1 : Below wr.heap.size wr w1 := by rw [← hw1]; exact (Below.refl _ wr).alloc (Nat.le_refl _) _
        have hin1 := Lib.hid (hin'.out.below hb1 hb)
        have hconv := conv_inputO hin1.out
        clear hk1 hw1 hin' hcell
        have hcr : 0 ≤ code ∧ code < 128 := by rcases hvc with (rfl | rfl | rfl | rfl | rfl | rfl) | (rfl | rfl | rfl | rfl) <;> decide
        have hcm : code % 256 = code := by omega
        have q2 : (w1.alloc (.cells noVal 36)).heap[w1.heap.size]? = some (.cells noVal 36 (0, 0)) := blk_new _ _
        obtain ⟨W2, hW2⟩ : ∃ W, W = (w1.alloc (.cells noVal 36)).setRow w1.heap.size (valCells 5 false 0 0 (.slice none 0 0) (strOfNums ts) false (.slice none 0 0) (.slice none 0 0)) := ⟨_, rfl⟩
        have q3 : W2.heap[w1.heap.size]? = some (.cells (valCells 5 false 0 0 (.slice none 0 0) (strOfNums ts) false (.slice none 0 0) (.slice none 0 0)) 36 (0, 0)) := by rw [hW2]; exact setRow_heap _ _ _ _ _ _ q2
        have hz1 := hb1.size
        have hb2 : Below w1.heap.size w1 W2 := by rw [hW2]; exact below_setRow ((Below.refl _ w1).alloc (Nat.le_refl _) _) (Nat.le_refl _) _
        have hz2 := sizeOf_blk q3
        have hW2' := Lib.hid hW2
        have hb2' := Lib.hid hb2
        have hvc' := Lib.hid hvc
        have hcd' := Lib.hid hcd
        clear hW2 hb2 hvc hcd
        have hE := Lib.hid (emptyRow W2)
        obtain ⟨i0, hi0, hz00, hz01, hz02⟩ := info_parts Tryz.info5
        have hbE : Below W2.heap.size W2 (W2.alloc (.cells #[] 5)) := (Below.refl _ W2).alloc (Nat.le_refl _) _
        have hbE' := Lib.hid hbE
        have q3' := Lib.hid q3
        clear hbE q3
        have hN := Lib.hid (Input.newsO ((hin1.out.below hb2'.out (by omega)).below hbE'.out (by omega)))

        go_wp2_with (first
          | (refine store_val rfl (.tmp 10) (.tmp 43) rfl _ rfl (valCells 5 false 0 0 (.slice none 0 0) (strOfNums ts) false (.slice none 0 0) (.slice none 0 0)) rfl noVal q2 rfl rfl (by simp [Value.oneCell']) ?_; change wpList _ _ _ _ _ ((w1.alloc (.cells noVal 36)).setRow w1.heap.size (valCells 5 false 0 0 (.slice none 0 0) (strOfNums ts) false (.slice none 0 0) (.slice none 0 0))); rw [← hW2'.out])
          | (at_builtin
             refine wpList_append_own_at _ rfl (.tmp 45) (.tmp 46) 22 rfl W2.heap.size 5 i0 _ 1 1 Tryz.underlying22 hi0 hz00 hz01 hz02 rfl (by decide) (.slice (some ⟨W2.heap.size, 0, none⟩) 0 0) 0 (u8s []) rfl hE.out ⟨b, o, none⟩ k c (u8s ts) rfl (by simpa using hlen) hN.out (u8s_one _) (by unfold maxLen; omega) (by omega) (by simp) ?_
             intro v7 w7 hown7 hgrow7 hnil7 hat7
             obtain ⟨g7, c7, hv7⟩ := own_some hown7 (fun e => by have := hnil7.1 e; simp at this)
             have hb7 := Lib.hid (hbE'.out.grown hgrow7 (by first | exact Nat.le_refl _ | simp) (fun x hx => by simp [Value.ownBlock] at hx; omega))
             have q7 := (hb7.out.block _ hz2).trans q3'.out
             replace hown7 := Lib.hid hown7
             clear hnil7 hat7 hgrow7
             subst hv7)
          | (refine store_val rfl (.tmp 10) (.tmp 48) rfl _ rfl (plainVal 4 false 0 0 (.slice (some ⟨g7, 0, none⟩) _ c7)) rfl (valCells 5 false 0 0 (.slice none 0 0) (strOfNums ts) false (.slice none 0 0) (.slice none 0 0)) q7 rfl rfl (plain1 _ _ _ _ _ _ _) ?_))
        clear q2 hcode hconv
        have hown8 := hown7.out
        rw [show u8s [] ++ u8s ts = u8s ts from rfl] at hown8
        simp only [Nat.zero_add] at hown8
        have hge := (hown8.lt g7 rfl).1
        obtain ⟨Wv, hWv⟩ : ∃ W, W = w7.setRow w1.heap.size (plainVal 4 false 0 0 (.slice (some ⟨g7, 0, none⟩) k c7)) := ⟨_, rfl⟩
        have hqv : Wv.heap[w1.heap.size]? = some (.cells (plainVal 4 false 0 0 (.slice (some ⟨g7, 0, none⟩) k c7)) 36 (0, 0)) := by rw [hWv]; exact setRow_heap _ _ _ _ _ _ q7
        have hbv : Below w1.heap.size w1 Wv := by rw [hWv]; exact below_setRow (hb2'.out.trans (hb7.out.mono (by omega))) (Nat.le_refl _) _
        have hkv : Keeps (fun k => k = w1.heap.size) w7 Wv := by rw [hWv]; exact ⟨rfl, rfl, rfl, by simp [World.setRow], fun k hk hT => setRow_other _ _ _ _ hT⟩
        have hzv := sizeOf_blk hqv
        obtain ⟨_, hgv, hiv⟩ := Input.of_row0 (hkv.ownsRow hown8 (fun k hk e => by simp only [Value.ownBlock, Option.some.injEq] at hk; omega))
        have hiv' := Lib.hid hiv
        clear hkv hown7 hown8 q7 hiv
        try simp only [Nat.zero_add]
        change Calls _ _ _ (w7.setRow w1.heap.size (plainVal 4 false 0 0 (.slice (some ⟨g7, 0, none⟩) k c7))) _
        rw [← hWv]
        clear hWv hb7
        refine (lengthBytes_any Wv k (by omega)).mono ?_
        rintro e w3 ⟨vl, rfl, hol, hb3⟩
        obtain ⟨gl, cl, rfl, _, hgl, hil⟩ := Input.of_row hol (by rw [lenB_length]; split <;> omega)
        have hil' := Lib.hid hil
        have q4 := (hb3.block _ hzv).trans hqv
        clear hol hil hqv
        have hLk := lenB_le k
        obtain ⟨L, hL⟩ : ∃ L, L = (lenB k).length := ⟨_, rfl⟩
        rw [← hL] at hil' hLk
        have hL' := Lib.hid hL
        rw [← hL'.out]
        clear hL
        go_wp2_with (refine load_val rfl (.tmp 10) rfl _ rfl _ q4 rfl ?_)
        have hnum := numsOf_str ts hu'.out
        have hasc : Ascii ts := fun x hx => by
          obtain ⟨j, hj, rfl⟩ := List.getElem_of_mem hx
          exact ⟨(hu'.out _ hx).1, hall j hj (by omega)⟩
        refine (fbText4 w3 code hvc'.out g7 k c7 ts hasc (by omega) (hiv'.out.below hb3 hgv) (by have := hb3.size; omega)).mono ?_
        rintro e w4 ⟨vo, rfl, hoo, hb4⟩
        obtain ⟨N, hN⟩ : ∃ N, N = ([code] ++ lenB ts.length ++ ts).length := ⟨_, rfl⟩
        rw [← hN] at hoo
        obtain ⟨g4, c4, rfl, hg4, hgl4, hio⟩ := Input.of_row hoo (by rw [hN]; simp)
        have hio' := Lib.hid hio
        have hN' := Lib.hid hN
        have hnum' := Lib.hid hnum
        have hasc' := Lib.hid hasc
        clear hoo hio q4 hN hnum hasc
        go_wp2_with fail
        refine (foText w4 code hvc'.out g4 N c4 ts hasc'.out (by omega) hio'.out hgl4).mono ?_
        rintro e w5 ⟨v5, B5, rfl, hv22, ⟨A5, m5, c5, rfl, ho5, hkB⟩, hB5, hb5⟩
        have ho5' := Lib.hid ho5
        clear ho5 hkB
        have q5 : (w5.alloc (.cells noVal 36)).heap[w5.heap.size]? = some (.cells noVal 36 (0, 0)) := blk_new _ _
        obtain ⟨W6, hW6⟩ : ∃ W, W = (w5.alloc (.cells noVal 36)).setRow w5.heap.size (plainVal 4 false 0 0 (.slice A5 m5 c5)) := ⟨_, rfl⟩
        have q6 : W6.heap[w5.heap.size]? = some (.cells (plainVal 4 false 0 0 (.slice A5 m5 c5)) 36 (0, 0)) := by rw [hW6]; exact setRow_heap _ _ _ _ _ _ q5
        have hb6 : Below w5.heap.size w5 W6 := by rw [hW6]; exact below_setRow ((Below.refl _ w5).alloc (Nat.le_refl _) _) (Nat.le_refl _) _
        have hz6 := sizeOf_blk q6
        have hzz3 := hb3.size
        have hzz4 := hb4.size
        have hzz5 := hb5.size
        have hlit := Lib.hid (litRow W6 code)
        have hb7 : Below W6.heap.size W6 (W6.alloc (.cells #[.int .u8 code] 5)) := (Below.refl _ W6).alloc (Nat.le_refl _) _
        have hN1 := Lib.hid (Input.newsO ((((hil'.out.below hb4 hgl).below hb5 (by omega)).below hb6 (by omega)).below hb7 (by omega)))
        have hli := hil'.out.len
        have hi7 := Lib.hid ((((((hin1.out.below hbv (by omega)).below hb3 (by omega)).below hb4 (by omega)).below hb5 (by omega)).below hb6 (by omega)))
        have hb7' := Lib.hid hb7
        have hb6' := Lib.hid hb6
        have q6' := Lib.hid q6
        have hW6' := Lib.hid hW6
        obtain ⟨j0, hj0, hj1, hj2, hj3⟩ := info_parts Tryz.info5
        have hli' := Lib.hid hli
        have hlL : (lenB ts.length).length = L := by rw [show ts.length = k by omega]; exact hL'.out.symm
        have hNk := Lib.hid (show 1 + L + k = N by rw [hN'.out]; simp [hlL, show ts.length = k by omega]; omega)
        have hN1' : 1 ≤ N := by have := hNk.out; omega
        have hN2 : N ≤ 4000 := by have := hNk.out; omega
        have hszN : ((szB ts.length : Nat) : Int) = (N : Int) - 1 := by have := hNk.out; unfold szB; rw [hlL]; omega
        have hTlen := Lib.hid (show ts.length = k by omega)
        rw [hTlen.out] at hszN
        clear hb7 hb6 q6 hW6 hli hlL
        go_wp2_with (first
          | (refine store_val rfl (.tmp 16) (.tmp 66) rfl _ rfl (plainVal 4 false 0 0 (.slice A5 m5 c5)) rfl noVal q5 rfl rfl (plain1 _ _ _ _ _ _ _) ?_; change wpList _ _ _ _ _ ((w5.alloc (.cells noVal 36)).setRow w5.heap.size (plainVal 4 false 0 0 (.slice A5 m5 c5))); rw [← hW6'.out])
          | (at_builtin
             refine wpList_append_own_at _ rfl (.tmp 71) (.tmp 72) 22 rfl W6.heap.size 5 j0 _ 1 1 Tryz.underlying22 hj0 hj1 hj2 hj3 rfl (by decide) (.slice (some ⟨W6.heap.size, 0, none⟩) 1 1) 1 (u8s [code]) rfl hlit.out ⟨gl, 0, none⟩ L cl (u8s (lenB k)) rfl (by simpa using hli'.out) hN1.out (u8s_one _) (by unfold maxLen; omega) (by omega) (by simp) ?_
             intro v8 w8 hown8 hgrow8 hnil8 hat8
             obtain ⟨g8, c8, hv8⟩ := own_some hown8 (fun e => by have := hnil8.1 e; simp at this)
             have hb8 := Lib.hid (hb7'.out.grown hgrow8 (by first | exact Nat.le_refl _ | simp) (fun x hx => by simp [Value.ownBlock] at hx; omega))
             replace hown8 := Lib.hid hown8
             clear hnil8 hat8 hgrow8
             subst hv8)
          | (at_builtin
             refine wpList_append_own_at _ rfl (.tmp 73) (.tmp 74) 22 rfl W6.heap.size 5 j0 _ 1 1 Tryz.underlying22 hj0 hj1 hj2 hj3 rfl (by decide) (.slice (some ⟨g8, 0, none⟩) (1 + L) c8) (1 + L) _ rfl hown8.out ⟨b, o, none⟩ k c (u8s ts) rfl (by simpa using hlen) (Input.newsO (hi7.out.below hb8.out (by omega))) (u8s_one _) (by unfold maxLen; omega) (by omega) (by have := hb8.out.size; omega) ?_
             intro v9 w9 hown9 hgrow9 hnil9 hat9
             rw [hNk.out] at hown9
             obtain ⟨g9, c9, hv9⟩ := own_some hown9 (fun e => by have := hnil9.1 e; simp at this)
             have hb9 := Lib.hid (hb8.out.grown hgrow9 (by have := hb8.out.size; omega) (fun x hx => by simp only [Value.ownBlock, Option.some.injEq] at hx; have := (hown8.out.lt g8 rfl).1; omega))
             replace hown9 := Lib.hid hown9
             clear hnil9 hat9 hgrow9
             subst hv9
             have hconvT : (convert 22 9 (.slice (some ⟨b, o, none⟩) k c)).run Tryz.prog w9 = .ok (.string (strOfNums ts)) w9 := conv_inputO (hi7.out.below hb9.out (by omega))
             have hb9q := (hb9.out.block _ hz6).trans q6'.out
             have hcv0 : (w9.cell? ⟨w5.heap.size, 0, none⟩) = some (.int .i64 4) := by rw [cellOf hb9q]; rfl
             have hcv4 : (w9.cell? ⟨w5.heap.size, 4, none⟩) = some (.slice A5 m5 c5) := by rw [cellOf hb9q]; rfl
             have hconvO : (convert 22 9 (.slice (some ⟨g4, 0, none⟩) N c4)).run Tryz.prog w9 = .ok (.string (strOfNums ([code] ++ lenB ts.length ++ ts))) w9 := conv_inputO (((hio'.out.below hb5 hgl4).below hb6'.out (by omega)).below hb9.out (by omega))
             have hconvW : (convert 22 9 (.slice (some ⟨g9, 0, none⟩) N c9)).run Tryz.prog w9 = .ok (.string (strOfNums ([code] ++ lenB ts.length ++ ts))) w9 := conv_any (bs := [code] ++ lenB ts.length ++ ts) (by have h := hown9.out; rw [← hTlen.out] at h; simpa [u8s] using h)
             have hconvB : (convert 22 9 (.slice A5 m5 c5)).run Tryz.prog w9 = .ok (.string (strOfNums ts)) w9 := conv_any (ownsBelow (ownsBelow ho5'.out hb6'.out (Nat.le_refl _)) hb9.out (Nat.le_refl _))
             clear hb9q))
        go_ret
        exact ⟨rfl, (((((hb1.trans (hbv.mono (by omega))).trans (hb3.mono (by have := hbv.size; omega))).trans (hb4.mono (by have := hbv.size; omega))).trans (hb5.mono (by have := hbv.size; omega))).trans (hb6'.out.mono (by have := hbv.size; omega))).trans (hb9.out.mono (by have := hbv.size; omega))⟩

set_option maxRecDepth 100000 in
set_option maxHeartbeats 2000000 in
theorem lawTextsN0 (w : World) (which : Int) (h0 : 0 ≤ which) (h1 : which < 256) (ts : List Int) (hts : ts = []) :
    Calls Tryz.prog 3 #[.int .u8 which, .slice none 0 0, .bool false] w fun e w' => e = .returned (.bool true) ∧ Below w.heap.size w w' := by
  have hts' := Lib.hid hts
  clear hts
  go_enter Tryz.func3, Tryz.ntmps3
  go_wp2_with fail
  go_loopw [25] (fun i wr => i = .int .i64 (0 : Nat) ∧ wr = w) (fun i _ => 0)
  case atStart => exact ⟨rfl, rfl⟩
  case round =>
    obtain ⟨rfl, rfl⟩ := hrel
    go_wp2_with fail
    refine (vaTexts_any wr).mono ?_
    rintro e w1 ⟨rfl, hw1⟩
    have hj : (which % 10).toNat < 10 := by omega
    obtain ⟨code, hcd, hvc⟩ := textCode _ hj
    have hk1 : w1.heap[wr.heap.size]? = some (.cells textCodes 3 (0, 0)) := by rw [← hw1]; exact blk_new _ _
    have hcode : w1.cell? ⟨wr.heap.size, (which % 10).toNat, none⟩ = some (.int .i64 code) := by rw [cellOf hk1]; exact hcd
    have hb1 : Below wr.heap.size wr w1 := by rw [← hw1]; exact (Below.refl _ wr).alloc (Nat.le_refl _) _
    have hconv : (convert 22 9 (.slice none 0 0)).run Tryz.prog w1 = .ok (.string (strOfNums ts)) w1 := by rw [hts'.out]; exact conv_nil w1
    clear hk1 hw1
    have hcr : 0 ≤ code ∧ code < 128 := by rcases hvc with (rfl | rfl | rfl | rfl | rfl | rfl) | (rfl | rfl | rfl | rfl) <;> decide
    have hcm : code % 256 = code := by omega
    have q2 : (w1.alloc (.cells noVal 36)).heap[w1.heap.size]? = some (.cells noVal 36 (0, 0)) := blk_new _ _
    obtain ⟨W2, hW2⟩ : ∃ W, W = (w1.alloc (.cells noVal 36)).setRow w1.heap.size (valCells 5 false 0 0 (.slice none 0 0) (strOfNums ts) false (.slice none 0 0) (.slice none 0 0)) := ⟨_, rfl⟩
    have q3 : W2.heap[w1.heap.size]? = some (.cells (valCells 5 false 0 0 (.slice none 0 0) (strOfNums ts) false (.slice none 0 0) (.slice none 0 0)) 36 (0, 0)) := by rw [hW2]; exact setRow_heap _ _ _ _ _ _ q2
    have hz1 := hb1.size
    have hb2 : Below w1.heap.size w1 W2 := by rw [hW2]; exact below_setRow ((Below.refl _ w1).alloc (Nat.le_refl _) _) (Nat.le_refl _) _
    have hz2 := sizeOf_blk q3
    have hW2' := Lib.hid hW2
    have hb2' := Lib.hid hb2
    have hvc' := Lib.hid hvc
    have hcd' := Lib.hid hcd
    clear hW2 hb2 hvc hcd
    go_wp2_with (refine store_val rfl (.tmp 10) (.tmp 43) rfl _ rfl (valCells 5 false 0 0 (.slice none 0 0) (strOfNums ts) false (.slice none 0 0) (.slice none 0 0)) rfl noVal q2 rfl rfl (by simp [Value.oneCell']) ?_; change wpList _ _ _ _ _ ((w1.alloc (.cells noVal 36)).setRow w1.heap.size (valCells 5 false 0 0 (.slice none 0 0) (strOfNums ts) false (.slice none 0 0) (.slice none 0 0))); rw [← hW2'.out])
    clear q2 hcode hconv
    have hqv := q3
    have hbv := hb2'.out
    have hzv := hz2
    refine (lengthBytes_any W2 0 (by omega)).mono ?_
    rintro e w3 ⟨vl, rfl, hol, hb3⟩
    obtain ⟨gl, cl, rfl, _, hgl, hil⟩ := Input.of_row hol (by rw [lenB_length]; split <;> omega)
    have hil' := Lib.hid hil
    have q4 := (hb3.block _ hzv).trans hqv
    clear hol hil hqv
    have hLk := lenB_le 0
    obtain ⟨L, hL⟩ : ∃ L, L = (lenB 0).length := ⟨_, rfl⟩
    rw [← hL] at hil' hLk
    have hL' := Lib.hid hL
    rw [← hL'.out]
    clear hL
    go_wp2_with (refine load_val rfl (.tmp 10) rfl _ rfl _ q4 rfl ?_)
    have hlen : ts.length = 0 := by rw [hts'.out]; rfl
    have hasc : Ascii ts := by rw [hts'.out]; intro x hx; simp at hx
    have hnum : numsOf (strOfNums ts) = ts := by rw [hts'.out]; exact numsOf_str [] (fun x hx => by simp at hx)
    refine (fbText5 w3 code hvc'.out (strOfNums ts) (by rw [strOfNums_size]; omega) ts hnum (by omega) hasc).mono ?_
    rintro e w4 ⟨vo, rfl, hoo, hb4⟩
    obtain ⟨N, hN⟩ : ∃ N, N = ([code] ++ lenB ts.length ++ ts).length := ⟨_, rfl⟩
    rw [← hN] at hoo
    obtain ⟨g4, c4, rfl, hg4, hgl4, hio⟩ := Input.of_row hoo (by rw [hN]; simp)
    have hio' := Lib.hid hio
    have hN' := Lib.hid hN
    have hnum' := Lib.hid hnum
    have hasc' := Lib.hid hasc
    clear hoo hio q4 hN hnum hasc
    go_wp2_with fail
    refine (foText w4 code hvc'.out g4 N c4 ts hasc'.out (by omega) hio'.out hgl4).mono ?_
    rintro e w5 ⟨v5, B5, rfl, hv22, ⟨A5, m5, c5, rfl, ho5, hkB⟩, hB5, hb5⟩
    have ho5' := Lib.hid ho5
    clear ho5 hkB
    have q5 : (w5.alloc (.cells noVal 36)).heap[w5.heap.size]? = some (.cells noVal 36 (0, 0)) := blk_new _ _
    obtain ⟨W6, hW6⟩ : ∃ W, W = (w5.alloc (.cells noVal 36)).setRow w5.heap.size (plainVal 4 false 0 0 (.slice A5 m5 c5)) := ⟨_, rfl⟩
    have q6 : W6.heap[w5.heap.size]? = some (.cells (plainVal 4 false 0 0 (.slice A5 m5 c5)) 36 (0, 0)) := by rw [hW6]; exact setRow_heap _ _ _ _ _ _ q5
    have hb6 : Below w5.heap.size w5 W6 := by rw [hW6]; exact below_setRow ((Below.refl _ w5).alloc (Nat.le_refl _) _) (Nat.le_refl _) _
    have hz6 := sizeOf_blk q6
    have hzz3 := hb3.size
    have hzz4 := hb4.size
    have hzz5 := hb5.size
    have hlit := Lib.hid (litRow W6 code)
    have hb7 : Below W6.heap.size W6 (W6.alloc (.cells #[.int .u8 code] 5)) := (Below.refl _ W6).alloc (Nat.le_refl _) _
    have hN1 := Lib.hid (Input.newsO ((((hil'.out.below hb4 hgl).below hb5 (by omega)).below hb6 (by omega)).below hb7 (by omega)))
    have hli := hil'.out.len
    have hb7' := Lib.hid hb7
    have hb6' := Lib.hid hb6
    have q6' := Lib.hid q6
    have hW6' := Lib.hid hW6
    obtain ⟨j0, hj0, hj1, hj2, hj3⟩ := info_parts Tryz.info5
    have hli' := Lib.hid hli
    have hlL : (lenB ts.length).length = L := by rw [show ts.length = 0 by omega]; exact hL'.out.symm
    have hNk := Lib.hid (show 1 + L + 0 = N by rw [hN'.out]; simp [hlL, show ts.length = 0 by omega]; omega)
    have hN1' : 1 ≤ N := by have := hNk.out; omega
    have hN2 : N ≤ 4000 := by have := hNk.out; omega
    have hszN : ((szB ts.length : Nat) : Int) = (N : Int) - 1 := by have := hNk.out; unfold szB; rw [hlL]; omega
    have hTlen := Lib.hid (show ts.length = 0 by omega)
    rw [hTlen.out] at hszN
    clear hb7 hb6 q6 hW6 hli hlL
    go_wp2_with (first
      | (refine store_val rfl (.tmp 16) (.tmp 66) rfl _ rfl (plainVal 4 false 0 0 (.slice A5 m5 c5)) rfl noVal q5 rfl rfl (plain1 _ _ _ _ _ _ _) ?_; change wpList _ _ _ _ _ ((w5.alloc (.cells noVal 36)).setRow w5.heap.size (plainVal 4 false 0 0 (.slice A5 m5 c5))); rw [← hW6'.out])
      | (at_builtin
         refine wpList_append_own_at _ rfl (.tmp 71) (.tmp 72) 22 rfl W6.heap.size 5 j0 _ 1 1 Tryz.underlying22 hj0 hj1 hj2 hj3 rfl (by decide) (.slice (some ⟨W6.heap.size, 0, none⟩) 1 1) 1 (u8s [code]) rfl hlit.out ⟨gl, 0, none⟩ L cl (u8s (lenB 0)) rfl (by simpa using hli'.out) hN1.out (u8s_one _) (by unfold maxLen; omega) (by omega) (by simp) ?_
         intro v8 w8 hown8 hgrow8 hnil8 hat8
         rw [show 1 + L = N by have := hNk.out; omega] at hown8
         obtain ⟨g8, c8, hv8⟩ := own_some hown8 (fun e => by have := hnil8.1 e; simp at this)
         have hb8 := Lib.hid (hb7'.out.grown hgrow8 (by first | exact Nat.le_refl _ | simp) (fun x hx => by simp [Value.ownBlock] at hx; omega))
         replace hown8 := Lib.hid hown8
         clear hnil8 hat8 hgrow8
         subst hv8)
      | (at_builtin
         refine wpList_append_own_none rfl (.tmp 73) (.tmp 74) 22 rfl W6.heap.size 5 j0 1 Tryz.underlying22 hj0 (.slice (some ⟨g8, 0, none⟩) N c8) N _ rfl hown8.out rfl ?_
         have hconvT : (convert 22 9 (.slice none 0 0)).run Tryz.prog w8 = .ok (.string (strOfNums ts)) w8 := by rw [hts'.out]; exact conv_nil w8
         have hb8q := (hb8.out.block _ hz6).trans q6'.out
         have hcv0 : (w8.cell? ⟨w5.heap.size, 0, none⟩) = some (.int .i64 4) := by rw [cellOf hb8q]; rfl
         have hcv4 : (w8.cell? ⟨w5.heap.size, 4, none⟩) = some (.slice A5 m5 c5) := by rw [cellOf hb8q]; rfl
         have hconvO : (convert 22 9 (.slice (some ⟨g4, 0, none⟩) N c4)).run Tryz.prog w8 = .ok (.string (strOfNums ([code] ++ lenB ts.length ++ ts))) w8 := conv_inputO (((hio'.out.below hb5 hgl4).below hb6'.out (by omega)).below hb8.out (by omega))
         have hconvW : (convert 22 9 (.slice (some ⟨g8, 0, none⟩) N c8)).run Tryz.prog w8 = .ok (.string (strOfNums ([code] ++ lenB ts.length ++ ts))) w8 := conv_any (bs := [code] ++ lenB ts.length ++ ts) (by have h := hown8.out; rw [← hTlen.out] at h; rw [hts'.out] at h ⊢; simpa [u8s] using h)
         have hconvB : (convert 22 9 (.slice A5 m5 c5)).run Tryz.prog w8 = .ok (.string (strOfNums ts)) w8 := conv_any (ownsBelow (ownsBelow ho5'.out hb6'.out (Nat.le_refl _)) hb8.out (Nat.le_refl _))
         clear hb8q))
    go_ret
    exact ⟨rfl, (((((hb1.trans (hbv.mono (by omega))).trans (hb3.mono (by have := hbv.size; omega))).trans (hb4.mono (by have := hbv.size; omega))).trans (hb5.mono (by have := hbv.size; omega))).trans (hb6'.out.mono (by have := hbv.size; omega))).trans (hb8.out.mono (by have := hbv.size; omega))⟩

set_option maxRecDepth 100000 in
set_option maxHeartbeats 2000000 in
theorem lawTextsN1 (w : World) (which : Int) (h0 : 0 ≤ which) (h1 : which < 256) (ts : List Int) (hts : ts = []) :
    Calls Tryz.prog 3 #[.int .u8 which, .slice none 0 0, .bool true] w fun e w' => e = .returned (.bool true) ∧ Below w.heap.size w w' := by
  have hts' := Lib.hid hts
  clear hts
  go_enter Tryz.func3, Tryz.ntmps3
  go_wp2_with fail
  go_loopw [25] (fun i wr => i = .int .i64 (0 : Nat) ∧ wr = w) (fun i _ => 0)
  case atStart => exact ⟨rfl, rfl⟩
  case round =>
    obtain ⟨rfl, rfl⟩ := hrel
    go_wp2_with fail
    refine (vaTexts_any wr).mono ?_
    rintro e w1 ⟨rfl, hw1⟩
    have hj : (which % 10).toNat < 10 := by omega
    obtain ⟨code, hcd, hvc⟩ := textCode _ hj
    have hk1 : w1.heap[wr.heap.size]? = some (.cells textCodes 3 (0, 0)) := by rw [← hw1]; exact blk_new _ _
    have hcode : w1.cell? ⟨wr.heap.size, (which % 10).toNat, none⟩ = some (.int .i64 code) := by rw [cellOf hk1]; exact hcd
    have hb1 : Below wr.heap.size wr w1 := by rw [← hw1]; exact (Below.refl _ wr).alloc (Nat.le_refl _) _
    have hconv : (convert 22 9 (.slice none 0 0)).run Tryz.prog w1 = .ok (.string (strOfNums ts)) w1 := by rw [hts'.out]; exact conv_nil w1
    clear hk1 hw1
    have hcr : 0 ≤ code ∧ code < 128 := by rcases hvc with (rfl | rfl | rfl | rfl | rfl | rfl) | (rfl | rfl | rfl | rfl) <;> decide
    have hcm : code % 256 = code := by omega
    have q2 : (w1.alloc (.cells noVal 36)).heap[w1.heap.size]? = some (.cells noVal 36 (0, 0)) := blk_new _ _
    obtain ⟨W2, hW2⟩ : ∃ W, W = (w1.alloc (.cells noVal 36)).setRow w1.heap.size (valCells 5 false 0 0 (.slice none 0 0) (strOfNums ts) false (.slice none 0 0) (.slice none 0 0)) := ⟨_, rfl⟩
    have q3 : W2.heap[w1.heap.size]? = some (.cells (valCells 5 false 0 0 (.slice none 0 0) (strOfNums ts) false (.slice none 0 0) (.slice none 0 0)) 36 (0, 0)) := by rw [hW2]; exact setRow_heap _ _ _ _ _ _ q2
    have hz1 := hb1.size
    have hb2 : Below w1.heap.size w1 W2 := by rw [hW2]; exact below_setRow ((Below.refl _ w1).alloc (Nat.le_refl _) _) (Nat.le_refl _) _
    have hz2 := sizeOf_blk q3
    have hW2' := Lib.hid hW2
    have hb2' := Lib.hid hb2
    have hvc' := Lib.hid hvc
    have hcd' := Lib.hid hcd
    clear hW2 hb2 hvc hcd
    have hE := Lib.hid (emptyRow W2)
    obtain ⟨i0, hi0, hz00, hz01, hz02⟩ := info_parts Tryz.info5
    have hbE : Below W2.heap.size W2 (W2.alloc (.cells #[] 5)) := (Below.refl _ W2).alloc (Nat.le_refl _) _
    have hbE' := Lib.hid hbE
    have q3' := Lib.hid q3
    clear hbE q3
    go_wp2_with (first
      | (refine store_val rfl (.tmp 10) (.tmp 43) rfl _ rfl (valCells 5 false 0 0 (.slice none 0 0) (strOfNums ts) false (.slice none 0 0) (.slice none 0 0)) rfl noVal q2 rfl rfl (by simp [Value.oneCell']) ?_; change wpList _ _ _ _ _ ((w1.alloc (.cells noVal 36)).setRow w1.heap.size (valCells 5 false 0 0 (.slice none 0 0) (strOfNums ts) false (.slice none 0 0) (.slice none 0 0))); rw [← hW2'.out])
      | (at_builtin
         refine wpList_append_own_none rfl (.tmp 45) (.tmp 46) 22 rfl W2.heap.size 5 i0 1 Tryz.underlying22 hi0 (.slice (some ⟨W2.heap.size, 0, none⟩) 0 0) 0 (u8s []) rfl hE.out rfl ?_
         have hq7 := Lib.hid ((hbE'.out.block _ hz2).trans q3'.out))
      | (refine store_val rfl (.tmp 10) (.tmp 48) rfl _ rfl (plainVal 4 false 0 0 (.slice _ _ _)) rfl (valCells 5 false 0 0 (.slice none 0 0) (strOfNums ts) false (.slice none 0 0) (.slice none 0 0)) ((hbE'.out.block _ hz2).trans q3'.out) rfl rfl (plain1 _ _ _ _ _ _ _) ?_))
    clear q2 hcode hconv
    have hq7 := (hbE'.out.block _ hz2).trans q3'.out
    obtain ⟨Wv, hWv⟩ : ∃ W, W = (W2.alloc (.cells #[] 5)).setRow w1.heap.size (plainVal 4 false 0 0 (.slice (some ⟨W2.heap.size, 0, none⟩) 0 0)) := ⟨_, rfl⟩
    have hqv : Wv.heap[w1.heap.size]? = some (.cells (plainVal 4 false 0 0 (.slice (some ⟨W2.heap.size, 0, none⟩) 0 0)) 36 (0, 0)) := by rw [hWv]; exact setRow_heap _ _ _ _ _ _ hq7
    have hbv : Below w1.heap.size w1 Wv := by rw [hWv]; exact below_setRow (hb2'.out.trans (hbE'.out.mono (by omega))) (Nat.le_refl _) _
    have hkv : Keeps (fun k => k = w1.heap.size) (W2.alloc (.cells #[] 5)) Wv := by rw [hWv]; exact ⟨rfl, rfl, rfl, by simp [World.setRow], fun k hk hT => setRow_other _ _ _ _ hT⟩
    have hzv := sizeOf_blk hqv
    have hrow : Wv.ownsRow W2.heap.size 5 1 (.slice (some ⟨W2.heap.size, 0, none⟩) 0 0) 0 (u8s ts) := by rw [hts'.out]; exact hkv.ownsRow hE.out (fun k hk e => by have := (hE.out.lt k hk).1; omega)
    obtain ⟨_, hgv, hiv⟩ := Input.of_row0 hrow
    have hiv' := Lib.hid hiv
    clear hrow hkv hq7 hiv
    change Calls _ _ _ ((W2.alloc (.cells #[] 5)).setRow w1.heap.size (plainVal 4 false 0 0 (.slice (some ⟨W2.heap.size, 0, none⟩) 0 0))) _
    rw [← hWv]
    clear hWv
    refine (lengthBytes_any Wv 0 (by omega)).mono ?_
    rintro e w3 ⟨vl, rfl, hol, hb3⟩
    obtain ⟨gl, cl, rfl, _, hgl, hil⟩ := Input.of_row hol (by rw [lenB_length]; split <;> omega)
    have hil' := Lib.hid hil
    have q4 := (hb3.block _ hzv).trans hqv
    clear hol hil hqv
    have hLk := lenB_le 0
    obtain ⟨L, hL⟩ : ∃ L, L = (lenB 0).length := ⟨_, rfl⟩
    rw [← hL] at hil' hLk
    have hL' := Lib.hid hL
    rw [← hL'.out]
    clear hL
    go_wp2_with (refine load_val rfl (.tmp 10) rfl _ rfl _ q4 rfl ?_)
    have hlen : ts.length = 0 := by rw [hts'.out]; rfl
    have hasc : Ascii ts := by rw [hts'.out]; intro x hx; simp at hx
    have hnum : numsOf (strOfNums ts) = ts := by rw [hts'.out]; exact numsOf_str [] (fun x hx => by simp at hx)
    refine (fbText4 w3 code hvc'.out W2.heap.size 0 0 ts hasc (by omega) (hiv'.out.below hb3 hgv) (by have := hb3.size; omega)).mono ?_
    rintro e w4 ⟨vo, rfl, hoo, hb4⟩
    obtain ⟨N, hN⟩ : ∃ N, N = ([code] ++ lenB ts.length ++ ts).length := ⟨_, rfl⟩
    rw [← hN] at hoo
    obtain ⟨g4, c4, rfl, hg4, hgl4, hio⟩ := Input.of_row hoo (by rw [hN]; simp)
    have hio' := Lib.hid hio
    have hN' := Lib.hid hN
    have hnum' := Lib.hid hnum
    have hasc' := Lib.hid hasc
    clear hoo hio q4 hN hnum hasc
    go_wp2_with fail
    refine (foText w4 code hvc'.out g4 N c4 ts hasc'.out (by omega) hio'.out hgl4).mono ?_
    rintro e w5 ⟨v5, B5, rfl, hv22, ⟨A5, m5, c5, rfl, ho5, hkB⟩, hB5, hb5⟩
    have ho5' := Lib.hid ho5
    clear ho5 hkB
    have q5 : (w5.alloc (.cells noVal 36)).heap[w5.heap.size]? = some (.cells noVal 36 (0, 0)) := blk_new _ _
    obtain ⟨W6, hW6⟩ : ∃ W, W = (w5.alloc (.cells noVal 36)).setRow w5.heap.size (plainVal 4 false 0 0 (.slice A5 m5 c5)) := ⟨_, rfl⟩
    have q6 : W6.heap[w5.heap.size]? = some (.cells (plainVal 4 false 0 0 (.slice A5 m5 c5)) 36 (0, 0)) := by rw [hW6]; exact setRow_heap _ _ _ _ _ _ q5
    have hb6 : Below w5.heap.size w5 W6 := by rw [hW6]; exact below_setRow ((Below.refl _ w5).alloc (Nat.le_refl _) _) (Nat.le_refl _) _
    have hz6 := sizeOf_blk q6
    have hzz3 := hb3.size
    have hzz4 := hb4.size
    have hzz5 := hb5.size
    have hlit := Lib.hid (litRow W6 code)
    have hb7 : Below W6.heap.size W6 (W6.alloc (.cells #[.int .u8 code] 5)) := (Below.refl _ W6).alloc (Nat.le_refl _) _
    have hN1 := Lib.hid (Input.newsO ((((hil'.out.below hb4 hgl).below hb5 (by omega)).below hb6 (by omega)).below hb7 (by omega)))
    have hli := hil'.out.len
    have hb7' := Lib.hid hb7
    have hb6' := Lib.hid hb6
    have q6' := Lib.hid q6
    have hW6' := Lib.hid hW6
    obtain ⟨j0, hj0, hj1, hj2, hj3⟩ := info_parts Tryz.info5
    have hli' := Lib.hid hli
    have hlL : (lenB ts.length).length = L := by rw [show ts.length = 0 by omega]; exact hL'.out.symm
    have hNk := Lib.hid (show 1 + L + 0 = N by rw [hN'.out]; simp [hlL, show ts.length = 0 by omega]; omega)
    have hN1' : 1 ≤ N := by have := hNk.out; omega
    have hN2 : N ≤ 4000 := by have := hNk.out; omega
    have hszN : ((szB ts.length : Nat) : Int) = (N : Int) - 1 := by have := hNk.out; unfold szB; rw [hlL]; omega
    have hTlen := Lib.hid (show ts.length = 0 by omega)
    rw [hTlen.out] at hszN
    clear hb7 hb6 q6 hW6 hli hlL
    go_wp2_with (first
      | (refine store_val rfl (.tmp 16) (.tmp 66) rfl _ rfl (plainVal 4 false 0 0 (.slice A5 m5 c5)) rfl noVal q5 rfl rfl (plain1 _ _ _ _ _ _ _) ?_; change wpList _ _ _ _ _ ((w5.alloc (.cells noVal 36)).setRow w5.heap.size (plainVal 4 false 0 0 (.slice A5 m5 c5))); rw [← hW6'.out])
      | (at_builtin
         refine wpList_append_own_at _ rfl (.tmp 71) (.tmp 72) 22 rfl W6.heap.size 5 j0 _ 1 1 Tryz.underlying22 hj0 hj1 hj2 hj3 rfl (by decide) (.slice (some ⟨W6.heap.size, 0, none⟩) 1 1) 1 (u8s [code]) rfl hlit.out ⟨gl, 0, none⟩ L cl (u8s (lenB 0)) rfl (by simpa using hli'.out) hN1.out (u8s_one _) (by unfold maxLen; omega) (by omega) (by simp) ?_
         intro v8 w8 hown8 hgrow8 hnil8 hat8
         rw [show 1 + L = N by have := hNk.out; omega] at hown8
         obtain ⟨g8, c8, hv8⟩ := own_some hown8 (fun e => by have := hnil8.1 e; simp at this)
         have hb8 := Lib.hid (hb7'.out.grown hgrow8 (by first | exact Nat.le_refl _ | simp) (fun x hx => by simp [Value.ownBlock] at hx; omega))
         replace hown8 := Lib.hid hown8
         clear hnil8 hat8 hgrow8
         subst hv8)
      | (at_builtin
         refine wpList_append_own_none rfl (.tmp 73) (.tmp 74) 22 rfl W6.heap.size 5 j0 1 Tryz.underlying22 hj0 (.slice (some ⟨g8, 0, none⟩) N c8) N _ rfl hown8.out rfl ?_
         have hconvT : (convert 22 9 (.slice none 0 0)).run Tryz.prog w8 = .ok (.string (strOfNums ts)) w8 := by rw [hts'.out]; exact conv_nil w8
         have hb8q := (hb8.out.block _ hz6).trans q6'.out
         have hcv0 : (w8.cell? ⟨w5.heap.size, 0, none⟩) = some (.int .i64 4) := by rw [cellOf hb8q]; rfl
         have hcv4 : (w8.cell? ⟨w5.heap.size, 4, none⟩) = some (.slice A5 m5 c5) := by rw [cellOf hb8q]; rfl
         have hconvO : (convert 22 9 (.slice (some ⟨g4, 0, none⟩) N c4)).run Tryz.prog w8 = .ok (.string (strOfNums ([code] ++ lenB ts.length ++ ts))) w8 := conv_inputO (((hio'.out.below hb5 hgl4).below hb6'.out (by omega)).below hb8.out (by omega))
         have hconvW : (convert 22 9 (.slice (some ⟨g8, 0, none⟩) N c8)).run Tryz.prog w8 = .ok (.string (strOfNums ([code] ++ lenB ts.length ++ ts))) w8 := conv_any (bs := [code] ++ lenB ts.length ++ ts) (by have h := hown8.out; rw [← hTlen.out] at h; rw [hts'.out] at h ⊢; simpa [u8s] using h)
         have hconvB : (convert 22 9 (.slice A5 m5 c5)).run Tryz.prog w8 = .ok (.string (strOfNums ts)) w8 := conv_any (ownsBelow (ownsBelow ho5'.out hb6'.out (Nat.le_refl _)) hb8.out (Nat.le_refl _))
         clear hb8q))
    go_ret
    exact ⟨rfl, (((((hb1.trans (hbv.mono (by omega))).trans (hb3.mono (by have := hbv.size; omega))).trans (hb4.mono (by have := hbv.size; omega))).trans (hb5.mono (by have := hbv.size; omega))).trans (hb6'.out.mono (by have := hbv.size; omega))).trans (hb8.out.mono (by have := hbv.size; omega))⟩

set_option maxRecDepth 100000 in
set_option maxHeartbeats 2000000 in
theorem lawTextsZ0 (w : World) (which : Int) (h0 : 0 ≤ which) (h1 : which < 256) (a : Addr) (ts : List Int) (hts : ts = []) :
    Calls Tryz.prog 3 #[.int .u8 which, .slice (some a) 0 0, .bool false] w fun e w' => e = .returned (.bool true) ∧ Below w.heap.size w w' := by
  have hts' := Lib.hid hts
  clear hts
  go_enter Tryz.func3, Tryz.ntmps3
  go_wp2_with fail
  go_loopw [25] (fun i wr => i = .int .i64 (0 : Nat) ∧ wr = w) (fun i _ => 0)
  case atStart => exact ⟨rfl, rfl⟩
  case round =>
    obtain ⟨rfl, rfl⟩ := hrel
    go_wp2_with fail
    refine (vaTexts_any wr).mono ?_
    rintro e w1 ⟨rfl, hw1⟩
    have hj : (which % 10).toNat < 10 := by omega
    obtain ⟨code, hcd, hvc⟩ := textCode _ hj
    have hk1 : w1.heap[wr.heap.size]? = some (.cells textCodes 3 (0, 0)) := by rw [← hw1]; exact blk_new _ _
    have hcode : w1.cell? ⟨wr.heap.size, (which % 10).toNat, none⟩ = some (.int .i64 code) := by rw [cellOf hk1]; exact hcd
    have hb1 : Below wr.heap.size wr w1 := by rw [← hw1]; exact (Below.refl _ wr).alloc (Nat.le_refl _) _
    have hconv : (convert 22 9 (.slice (some a) 0 0)).run Tryz.prog w1 = .ok (.string (strOfNums ts)) w1 := by rw [hts'.out]; exact conv_zero a w1
    clear hk1 hw1
    have hcr : 0 ≤ code ∧ code < 128 := by rcases hvc with (rfl | rfl | rfl | rfl | rfl | rfl) | (rfl | rfl | rfl | rfl) <;> decide
    have hcm : code % 256 = code := by omega
    have q2 : (w1.alloc (.cells noVal 36)).heap[w1.heap.size]? = some (.cells noVal 36 (0, 0)) := blk_new _ _
    obtain ⟨W2, hW2⟩ : ∃ W, W = (w1.alloc (.cells noVal 36)).setRow w1.heap.size (valCells 5 false 0 0 (.slice none 0 0) (strOfNums ts) false (.slice none 0 0) (.slice none 0 0)) := ⟨_, rfl⟩
    have q3 : W2.heap[w1.heap.size]? = some (.cells (valCells 5 false 0 0 (.slice none 0 0) (strOfNums ts) false (.slice none 0 0) (.slice none 0 0)) 36 (0, 0)) := by rw [hW2]; exact setRow_heap _ _ _ _ _ _ q2
    have hz1 := hb1.size
    have hb2 : Below w1.heap.size w1 W2 := by rw [hW2]; exact below_setRow ((Below.refl _ w1).alloc (Nat.le_refl _) _) (Nat.le_refl _) _
    have hz2 := sizeOf_blk q3
    have hW2' := Lib.hid hW2
    have hb2' := Lib.hid hb2
    have hvc' := Lib.hid hvc
    have hcd' := Lib.hid hcd
    clear hW2 hb2 hvc hcd
    go_wp2_with (refine store_val rfl (.tmp 10) (.tmp 43) rfl _ rfl (valCells 5 false 0 0 (.slice none 0 0) (strOfNums ts) false (.slice none 0 0) (.slice none 0 0)) rfl noVal q2 rfl rfl (by simp [Value.oneCell']) ?_; change wpList _ _ _ _ _ ((w1.alloc (.cells noVal 36)).setRow w1.heap.size (valCells 5 false 0 0 (.slice none 0 0) (strOfNums ts) false (.slice none 0 0) (.slice none 0 0))); rw [← hW2'.out])
    clear q2 hcode hconv
    have hqv := q3
    have hbv := hb2'.out
    have hzv := hz2
    refine (lengthBytes_any W2 0 (by omega)).mono ?_
    rintro e w3 ⟨vl, rfl, hol, hb3⟩
    obtain ⟨gl, cl, rfl, _, hgl, hil⟩ := Input.of_row hol (by rw [lenB_length]; split <;> omega)
    have hil' := Lib.hid hil
    have q4 := (hb3.block _ hzv).trans hqv
    clear hol hil hqv
    have hLk := lenB_le 0
    obtain ⟨L, hL⟩ : ∃ L, L = (lenB 0).length := ⟨_, rfl⟩
    rw [← hL] at hil' hLk
    have hL' := Lib.hid hL
    rw [← hL'.out]
    clear hL
    go_wp2_with (refine load_val rfl (.tmp 10) rfl _ rfl _ q4 rfl ?_)
    have hlen : ts.length = 0 := by rw [hts'.out]; rfl
    have hasc : Ascii ts := by rw [hts'.out]; intro x hx; simp at hx
    have hnum : numsOf (strOfNums ts) = ts := by rw [hts'.out]; exact numsOf_str [] (fun x hx => by simp at hx)
    refine (fbText5 w3 code hvc'.out (strOfNums ts) (by rw [strOfNums_size]; omega) ts hnum (by omega) hasc).mono ?_
    rintro e w4 ⟨vo, rfl, hoo, hb4⟩
    obtain ⟨N, hN⟩ : ∃ N, N = ([code] ++ lenB ts.length ++ ts).length := ⟨_, rfl⟩
    rw [← hN] at hoo
    obtain ⟨g4, c4, rfl, hg4, hgl4, hio⟩ := Input.of_row hoo (by rw [hN]; simp)
    have hio' := Lib.hid hio
    have hN' := Lib.hid hN
    have hnum' := Lib.hid hnum
    have hasc' := Lib.hid hasc
    clear hoo hio q4 hN hnum hasc
    go_wp2_with fail
    refine (foText w4 code hvc'.out g4 N c4 ts hasc'.out (by omega) hio'.out hgl4).mono ?_
    rintro e w5 ⟨v5, B5, rfl, hv22, ⟨A5, m5, c5, rfl, ho5, hkB⟩, hB5, hb5⟩
    have ho5' := Lib.hid ho5
    clear ho5 hkB
    have q5 : (w5.alloc (.cells noVal 36)).heap[w5.heap.size]? = some (.cells noVal 36 (0, 0)) := blk_new _ _
    obtain ⟨W6, hW6⟩ : ∃ W, W = (w5.alloc (.cells noVal 36)).setRow w5.heap.size (plainVal 4 false 0 0 (.slice A5 m5 c5)) := ⟨_, rfl⟩
    have q6 : W6.heap[w5.heap.size]? = some (.cells (plainVal 4 false 0 0 (.slice A5 m5 c5)) 36 (0, 0)) := by rw [hW6]; exact setRow_heap _ _ _ _ _ _ q5
    have hb6 : Below w5.heap.size w5 W6 := by rw [hW6]; exact below_setRow ((Below.refl _ w5).alloc (Nat.le_refl _) _) (Nat.le_refl _) _
    have hz6 := sizeOf_blk q6
    have hzz3 := hb3.size
    have hzz4 := hb4.size
    have hzz5 := hb5.size
    have hlit := Lib.hid (litRow W6 code)
    have hb7 : Below W6.heap.size W6 (W6.alloc (.cells #[.int .u8 code] 5)) := (Below.refl _ W6).alloc (Nat.le_refl _) _
    have hN1 := Lib.hid (Input.newsO ((((hil'.out.below hb4 hgl).below hb5 (by omega)).below hb6 (by omega)).below hb7 (by omega)))
    have hli := hil'.out.len
    have hb7' := Lib.hid hb7
    have hb6' := Lib.hid hb6
    have q6' := Lib.hid q6
    have hW6' := Lib.hid hW6
    obtain ⟨j0, hj0, hj1, hj2, hj3⟩ := info_parts Tryz.info5
    have hli' := Lib.hid hli
    have hlL : (lenB ts.length).length = L := by rw [show ts.length = 0 by omega]; exact hL'.out.symm
    have hNk := Lib.hid (show 1 + L + 0 = N by rw [hN'.out]; simp [hlL, show ts.length = 0 by omega]; omega)
    have hN1' : 1 ≤ N := by have := hNk.out; omega
    have hN2 : N ≤ 4000 := by have := hNk.out; omega
    have hszN : ((szB ts.length : Nat) : Int) = (N : Int) - 1 := by have := hNk.out; unfold szB; rw [hlL]; omega
    have hTlen := Lib.hid (show ts.length = 0 by omega)
    rw [hTlen.out] at hszN
    clear hb7 hb6 q6 hW6 hli hlL
    go_wp2_with (first
      | (refine store_val rfl (.tmp 16) (.tmp 66) rfl _ rfl (plainVal 4 false 0 0 (.slice A5 m5 c5)) rfl noVal q5 rfl rfl (plain1 _ _ _ _ _ _ _) ?_; change wpList _ _ _ _ _ ((w5.alloc (.cells noVal 36)).setRow w5.heap.size (plainVal 4 false 0 0 (.slice A5 m5 c5))); rw [← hW6'.out])
      | (at_builtin
         refine wpList_append_own_at _ rfl (.tmp 71) (.tmp 72) 22 rfl W6.heap.size 5 j0 _ 1 1 Tryz.underlying22 hj0 hj1 hj2 hj3 rfl (by decide) (.slice (some ⟨W6.heap.size, 0, none⟩) 1 1) 1 (u8s [code]) rfl hlit.out ⟨gl, 0, none⟩ L cl (u8s (lenB 0)) rfl (by simpa using hli'.out) hN1.out (u8s_one _) (by unfold maxLen; omega) (by omega) (by simp) ?_
         intro v8 w8 hown8 hgrow8 hnil8 hat8
         obtain ⟨g8, c8, hv8⟩ := own_some hown8 (fun e => by have := hnil8.1 e; simp at this)
         have hb8 := Lib.hid (hb7'.out.grown hgrow8 (by first | exact Nat.le_refl _ | simp) (fun x hx => by simp [Value.ownBlock] at hx; omega))
         replace hown8 := Lib.hid hown8
         clear hnil8 hat8 hgrow8
         subst hv8)
      | (at_builtin
         refine wpList_append_own_at _ rfl (.tmp 73) (.tmp 74) 22 rfl W6.heap.size 5 j0 _ 1 1 Tryz.underlying22 hj0 hj1 hj2 hj3 rfl (by decide) (.slice (some ⟨g8, 0, none⟩) (1 + L) c8) (1 + L) _ rfl hown8.out a 0 0 (u8s ts) rfl (by simpa using hlen) (by rw [hts'.out]; intro j u hj; simp at hj) (u8s_one _) (by unfold maxLen; omega) (by omega) (by have := hb8.out.size; omega) ?_
         intro v9 w9 hown9 hgrow9 hnil9 hat9
         rw [hNk.out] at hown9
         obtain ⟨g9, c9, hv9⟩ := own_some hown9 (fun e => by have := hnil9.1 e; simp at this)
         have hb9 := Lib.hid (hb8.out.grown hgrow9 (by have := hb8.out.size; omega) (fun x hx => by simp only [Value.ownBlock, Option.some.injEq] at hx; have := (hown8.out.lt g8 rfl).1; omega))
         replace hown9 := Lib.hid hown9
         clear hnil9 hat9 hgrow9
         subst hv9
         have hconvT : (convert 22 9 (.slice (some a) 0 0)).run Tryz.prog w9 = .ok (.string (strOfNums ts)) w9 := by rw [hts'.out]; exact conv_zero a w9
         have hb9q := (hb9.out.block _ hz6).trans q6'.out
         have hcv0 : (w9.cell? ⟨w5.heap.size, 0, none⟩) = some (.int .i64 4) := by rw [cellOf hb9q]; rfl
         have hcv4 : (w9.cell? ⟨w5.heap.size, 4, none⟩) = some (.slice A5 m5 c5) := by rw [cellOf hb9q]; rfl
         have hconvO : (convert 22 9 (.slice (some ⟨g4, 0, none⟩) N c4)).run Tryz.prog w9 = .ok (.string (strOfNums ([code] ++ lenB ts.length ++ ts))) w9 := conv_inputO (((hio'.out.below hb5 hgl4).below hb6'.out (by omega)).below hb9.out (by omega))
         have hconvW : (convert 22 9 (.slice (some ⟨g9, 0, none⟩) N c9)).run Tryz.prog w9 = .ok (.string (strOfNums ([code] ++ lenB ts.length ++ ts))) w9 := conv_any (bs := [code] ++ lenB ts.length ++ ts) (by have h := hown9.out; rw [← hTlen.out] at h; rw [hts'.out] at h ⊢; simpa [u8s] using h)
         have hconvB : (convert 22 9 (.slice A5 m5 c5)).run Tryz.prog w9 = .ok (.string (strOfNums ts)) w9 := conv_any (ownsBelow (ownsBelow ho5'.out hb6'.out (Nat.le_refl _)) hb9.out (Nat.le_refl _))
         clear hb9q))
    go_ret
    exact ⟨rfl, (((((hb1.trans (hbv.mono (by omega))).trans (hb3.mono (by have := hbv.size; omega))).trans (hb4.mono (by have := hbv.size; omega))).trans (hb5.mono (by have := hbv.size; omega))).trans (hb6'.out.mono (by have := hbv.size; omega))).trans (hb9.out.mono (by have := hbv.size; omega))⟩

set_option maxRecDepth 100000 in
set_option maxHeartbeats 2000000 in
theorem lawTextsZ1 (w : World) (which : Int) (h0 : 0 ≤ which) (h1 : which < 256) (a : Addr) (ts : List Int) (hts : ts = []) :
    Calls Tryz.prog 3 #[.int .u8 which, .slice (some a) 0 0, .bool true] w fun e w' => e = .returned (.bool true) ∧ Below w.heap.size w w' := by
  have hts' := Lib.hid hts
  clear hts
  go_enter Tryz.func3, Tryz.ntmps3
  go_wp2_with fail
  go_loopw [25] (fun i wr => i = .int .i64 (0 : Nat) ∧ wr = w) (fun i _ => 0)
  case atStart => exact ⟨rfl, rfl⟩
  case round =>
    obtain ⟨rfl, rfl⟩ := hrel
    go_wp2_with fail
    refine (vaTexts_any wr).mono ?_
    rintro e w1 ⟨rfl, hw1⟩
    have hj : (which % 10).toNat < 10 := by omega
    obtain ⟨code, hcd, hvc⟩ := textCode _ hj
    have hk1 : w1.heap[wr.heap.size]? = some (.cells textCodes 3 (0, 0)) := by rw [← hw1]; exact blk_new _ _
    have hcode : w1.cell? ⟨wr.heap.size, (which % 10).toNat, none⟩ = some (.int .i64 code) := by rw [cellOf hk1]; exact hcd
    have hb1 : Below wr.heap.size wr w1 := by rw [← hw1]; exact (Below.refl _ wr).alloc (Nat.le_refl _) _
    have hconv : (convert 22 9 (.slice (some a) 0 0)).run Tryz.prog w1 = .ok (.string (strOfNums ts)) w1 := by rw [hts'.out]; exact conv_zero a w1
    clear hk1 hw1
    have hcr : 0 ≤ code ∧ code < 128 := by rcases hvc with (rfl | rfl | rfl | rfl | rfl | rfl) | (rfl | rfl | rfl | rfl) <;> decide
    have hcm : code % 256 = code := by omega
    have q2 : (w1.alloc (.cells noVal 36)).heap[w1.heap.size]? = some (.cells noVal 36 (0, 0)) := blk_new _ _
    obtain ⟨W2, hW2⟩ : ∃ W, W = (w1.alloc (.cells noVal 36)).setRow w1.heap.size (valCells 5 false 0 0 (.slice none 0 0) (strOfNums ts) false (.slice none 0 0) (.slice none 0 0)) := ⟨_, rfl⟩
    have q3 : W2.heap[w1.heap.size]? = some (.cells (valCells 5 false 0 0 (.slice none 0 0) (strOfNums ts) false (.slice none 0 0) (.slice none 0 0)) 36 (0, 0)) := by rw [hW2]; exact setRow_heap _ _ _ _ _ _ q2
    have hz1 := hb1.size
    have hb2 : Below w1.heap.size w1 W2 := by rw [hW2]; exact below_setRow ((Below.refl _ w1).alloc (Nat.le_refl _) _) (Nat.le_refl _) _
    have hz2 := sizeOf_blk q3
    have hW2' := Lib.hid hW2
    have hb2' := Lib.hid hb2
    have hvc' := Lib.hid hvc
    have hcd' := Lib.hid hcd
    clear hW2 hb2 hvc hcd
    have hE := Lib.hid (emptyRow W2)
    obtain ⟨i0, hi0, hz00, hz01, hz02⟩ := info_parts Tryz.info5
    have hbE : Below W2.heap.size W2 (W2.alloc (.cells #[] 5)) := (Below.refl _ W2).alloc (Nat.le_refl _) _
    have hbE' := Lib.hid hbE
    have q3' := Lib.hid q3
    clear hbE q3
    have hN := Lib.hid (show ∀ j u, (u8s ts)[j]? = some u → (W2.alloc (.cells #[] 5)).cell? (a.add j) = some u by rw [hts'.out]; intro j u hj; simp at hj)
    have hlen : ts.length = 0 := by rw [hts'.out]; rfl
    go_wp2_with (first
      | (refine store_val rfl (.tmp 10) (.tmp 43) rfl _ rfl (valCells 5 false 0 0 (.slice none 0 0) (strOfNums ts) false (.slice none 0 0) (.slice none 0 0)) rfl noVal q2 rfl rfl (by simp [Value.oneCell']) ?_; change wpList _ _ _ _ _ ((w1.alloc (.cells noVal 36)).setRow w1.heap.size (valCells 5 false 0 0 (.slice none 0 0) (strOfNums ts) false (.slice none 0 0) (.slice none 0 0))); rw [← hW2'.out])
      | (at_builtin
         refine wpList_append_own_at _ rfl (.tmp 45) (.tmp 46) 22 rfl W2.heap.size 5 i0 _ 1 1 Tryz.underlying22 hi0 hz00 hz01 hz02 rfl (by decide) (.slice (some ⟨W2.heap.size, 0, none⟩) 0 0) 0 (u8s []) rfl hE.out a 0 0 (u8s ts) rfl (by simpa using hlen) hN.out (u8s_one _) (by unfold maxLen; omega) (by omega) (by simp) ?_
         intro v7 w7 hown7 hgrow7 hnil7 hat7
         obtain ⟨g7, c7, hv7⟩ := own_some hown7 (fun e => by have := hnil7.1 e; simp at this)
         have hb7 := Lib.hid (hbE'.out.grown hgrow7 (by first | exact Nat.le_refl _ | simp) (fun x hx => by simp [Value.ownBlock] at hx; omega))
         have q7 := (hb7.out.block _ hz2).trans q3'.out
         replace hown7 := Lib.hid hown7
         clear hnil7 hat7 hgrow7
         subst hv7)
      | (refine store_val rfl (.tmp 10) (.tmp 48) rfl _ rfl (plainVal 4 false 0 0 (.slice (some ⟨g7, 0, none⟩) _ c7)) rfl (valCells 5 false 0 0 (.slice none 0 0) (strOfNums ts) false (.slice none 0 0) (.slice none 0 0)) q7 rfl rfl (plain1 _ _ _ _ _ _ _) ?_))
    clear q2 hcode hconv
    have hown8 := hown7.out
    rw [show u8s [] ++ u8s ts = u8s ts from rfl] at hown8
    simp only [Nat.zero_add] at hown8
    have hge := (hown8.lt g7 rfl).1
    obtain ⟨Wv, hWv⟩ : ∃ W, W = w7.setRow w1.heap.size (plainVal 4 false 0 0 (.slice (some ⟨g7, 0, none⟩) 0 c7)) := ⟨_, rfl⟩
    have hqv : Wv.heap[w1.heap.size]? = some (.cells (plainVal 4 false 0 0 (.slice (some ⟨g7, 0, none⟩) 0 c7)) 36 (0, 0)) := by rw [hWv]; exact setRow_heap _ _ _ _ _ _ q7
    have hbv : Below w1.heap.size w1 Wv := by rw [hWv]; exact below_setRow (hb2'.out.trans (hb7.out.mono (by omega))) (Nat.le_refl _) _
    have hkv : Keeps (fun k => k = w1.heap.size) w7 Wv := by rw [hWv]; exact ⟨rfl, rfl, rfl, by simp [World.setRow], fun k hk hT => setRow_other _ _ _ _ hT⟩
    have hzv := sizeOf_blk hqv
    obtain ⟨_, hgv, hiv⟩ := Input.of_row0 (hkv.ownsRow hown8 (fun k hk e => by simp only [Value.ownBlock, Option.some.injEq] at hk; omega))
    have hiv' := Lib.hid hiv
    clear hkv hown7 hown8 q7 hiv
    try simp only [Nat.zero_add]
    change Calls _ _ _ (w7.setRow w1.heap.size (plainVal 4 false 0 0 (.slice (some ⟨g7, 0, none⟩) 0 c7))) _
    rw [← hWv]
    clear hWv hb7
    refine (lengthBytes_any Wv 0 (by omega)).mono ?_
    rintro e w3 ⟨vl, rfl, hol, hb3⟩
    obtain ⟨gl, cl, rfl, _, hgl, hil⟩ := Input.of_row hol (by rw [lenB_length]; split <;> omega)
    have hil' := Lib.hid hil
    have q4 := (hb3.block _ hzv).trans hqv
    clear hol hil hqv
    have hLk := lenB_le 0
    obtain ⟨L, hL⟩ : ∃ L, L = (lenB 0).length := ⟨_, rfl⟩
    rw [← hL] at hil' hLk
    have hL' := Lib.hid hL
    rw [← hL'.out]
    clear hL
    go_wp2_with (refine load_val rfl (.tmp 10) rfl _ rfl _ q4 rfl ?_)
    have hlen : ts.length = 0 := by rw [hts'.out]; rfl
    have hasc : Ascii ts := by rw [hts'.out]; intro x hx; simp at hx
    have hnum : numsOf (strOfNums ts) = ts := by rw [hts'.out]; exact numsOf_str [] (fun x hx => by simp at hx)
    refine (fbText4 w3 code hvc'.out g7 0 c7 ts hasc (by omega) (hiv'.out.below hb3 hgv) (by have := hb3.size; omega)).mono ?_
    rintro e w4 ⟨vo, rfl, hoo, hb4⟩
    obtain ⟨N, hN⟩ : ∃ N, N = ([code] ++ lenB ts.length ++ ts).length := ⟨_, rfl⟩
    rw [← hN] at hoo
    obtain ⟨g4, c4, rfl, hg4, hgl4, hio⟩ := Input.of_row hoo (by rw [hN]; simp)
    have hio' := Lib.hid hio
    have hN' := Lib.hid hN
    have hnum' := Lib.hid hnum
    have hasc' := Lib.hid hasc
    clear hoo hio q4 hN hnum hasc
    go_wp2_with fail
    refine (foText w4 code hvc'.out g4 N c4 ts hasc'.out (by omega) hio'.out hgl4).mono ?_
    rintro e w5 ⟨v5, B5, rfl, hv22, ⟨A5, m5, c5, rfl, ho5, hkB⟩, hB5, hb5⟩
    have ho5' := Lib.hid ho5
    clear ho5 hkB
    have q5 : (w5.alloc (.cells noVal 36)).heap[w5.heap.size]? = some (.cells noVal 36 (0, 0)) := blk_new _ _
    obtain ⟨W6, hW6⟩ : ∃ W, W = (w5.alloc (.cells noVal 36)).setRow w5.heap.size (plainVal 4 false 0 0 (.slice A5 m5 c5)) := ⟨_, rfl⟩
    have q6 : W6.heap[w5.heap.size]? = some (.cells (plainVal 4 false 0 0 (.slice A5 m5 c5)) 36 (0, 0)) := by rw [hW6]; exact setRow_heap _ _ _ _ _ _ q5
    have hb6 : Below w5.heap.size w5 W6 := by rw [hW6]; exact below_setRow ((Below.refl _ w5).alloc (Nat.le_refl _) _) (Nat.le_refl _) _
    have hz6 := sizeOf_blk q6
    have hzz3 := hb3.size
    have hzz4 := hb4.size
    have hzz5 := hb5.size
    have hlit := Lib.hid (litRow W6 code)
    have hb7 : Below W6.heap.size W6 (W6.alloc (.cells #[.int .u8 code] 5)) := (Below.refl _ W6).alloc (Nat.le_refl _) _
    have hN1 := Lib.hid (Input.newsO ((((hil'.out.below hb4 hgl).below hb5 (by omega)).below hb6 (by omega)).below hb7 (by omega)))
    have hli := hil'.out.len
    have hb7' := Lib.hid hb7
    have hb6' := Lib.hid hb6
    have q6' := Lib.hid q6
    have hW6' := Lib.hid hW6
    obtain ⟨j0, hj0, hj1, hj2, hj3⟩ := info_parts Tryz.info5
    have hli' := Lib.hid hli
    have hlL : (lenB ts.length).length = L := by rw [show ts.length = 0 by omega]; exact hL'.out.symm
    have hNk := Lib.hid (show 1 + L + 0 = N by rw [hN'.out]; simp [hlL, show ts.length = 0 by omega]; omega)
    have hN1' : 1 ≤ N := by have := hNk.out; omega
    have hN2 : N ≤ 4000 := by have := hNk.out; omega
    have hszN : ((szB ts.length : Nat) : Int) = (N : Int) - 1 := by have := hNk.out; unfold szB; rw [hlL]; omega
    have hTlen := Lib.hid (show ts.length = 0 by omega)
    rw [hTlen.out] at hszN
    clear hb7 hb6 q6 hW6 hli hlL
    go_wp2_with (first
      | (refine store_val rfl (.tmp 16) (.tmp 66) rfl _ rfl (plainVal 4 false 0 0 (.slice A5 m5 c5)) rfl noVal q5 rfl rfl (plain1 _ _ _ _ _ _ _) ?_; change wpList _ _ _ _ _ ((w5.alloc (.cells noVal 36)).setRow w5.heap.size (plainVal 4 false 0 0 (.slice A5 m5 c5))); rw [← hW6'.out])
      | (at_builtin
         refine wpList_append_own_at _ rfl (.tmp 71) (.tmp 72) 22 rfl W6.heap.size 5 j0 _ 1 1 Tryz.underlying22 hj0 hj1 hj2 hj3 rfl (by decide) (.slice (some ⟨W6.heap.size, 0, none⟩) 1 1) 1 (u8s [code]) rfl hlit.out ⟨gl, 0, none⟩ L cl (u8s (lenB 0)) rfl (by simpa using hli'.out) hN1.out (u8s_one _) (by unfold maxLen; omega) (by omega) (by simp) ?_
         intro v8 w8 hown8 hgrow8 hnil8 hat8
         obtain ⟨g8, c8, hv8⟩ := own_some hown8 (fun e => by have := hnil8.1 e; simp at this)
         have hb8 := Lib.hid (hb7'.out.grown hgrow8 (by first | exact Nat.le_refl _ | simp) (fun x hx => by simp [Value.ownBlock] at hx; omega))
         replace hown8 := Lib.hid hown8
         clear hnil8 hat8 hgrow8
         subst hv8)
      | (at_builtin
         refine wpList_append_own_at _ rfl (.tmp 73) (.tmp 74) 22 rfl W6.heap.size 5 j0 _ 1 1 Tryz.underlying22 hj0 hj1 hj2 hj3 rfl (by decide) (.slice (some ⟨g8, 0, none⟩) (1 + L) c8) (1 + L) _ rfl hown8.out a 0 0 (u8s ts) rfl (by simpa using hlen) (by rw [hts'.out]; intro j u hj; simp at hj) (u8s_one _) (by unfold maxLen; omega) (by omega) (by have := hb8.out.size; omega) ?_
         intro v9 w9 hown9 hgrow9 hnil9 hat9
         rw [hNk.out] at hown9
         obtain ⟨g9, c9, hv9⟩ := own_some hown9 (fun e => by have := hnil9.1 e; simp at this)
         have hb9 := Lib.hid (hb8.out.grown hgrow9 (by have := hb8.out.size; omega) (fun x hx => by simp only [Value.ownBlock, Option.some.injEq] at hx; have := (hown8.out.lt g8 rfl).1; omega))
         replace hown9 := Lib.hid hown9
         clear hnil9 hat9 hgrow9
         subst hv9
         have hconvT : (convert 22 9 (.slice (some a) 0 0)).run Tryz.prog w9 = .ok (.string (strOfNums ts)) w9 := by rw [hts'.out]; exact conv_zero a w9
         have hb9q := (hb9.out.block _ hz6).trans q6'.out
         have hcv0 : (w9.cell? ⟨w5.heap.size, 0, none⟩) = some (.int .i64 4) := by rw [cellOf hb9q]; rfl
         have hcv4 : (w9.cell? ⟨w5.heap.size, 4, none⟩) = some (.slice A5 m5 c5) := by rw [cellOf hb9q]; rfl
         have hconvO : (convert 22 9 (.slice (some ⟨g4, 0, none⟩) N c4)).run Tryz.prog w9 = .ok (.string (strOfNums ([code] ++ lenB ts.length ++ ts))) w9 := conv_inputO (((hio'.out.below hb5 hgl4).below hb6'.out (by omega)).below hb9.out (by omega))
         have hconvW : (convert 22 9 (.slice (some ⟨g9, 0, none⟩) N c9)).run Tryz.prog w9 = .ok (.string (strOfNums ([code] ++ lenB ts.length ++ ts))) w9 := conv_any (bs := [code] ++ lenB ts.length ++ ts) (by have h := hown9.out; rw [← hTlen.out] at h; rw [hts'.out] at h ⊢; simpa [u8s] using h)
         have hconvB : (convert 22 9 (.slice A5 m5 c5)).run Tryz.prog w9 = .ok (.string (strOfNums ts)) w9 := conv_any (ownsBelow (ownsBelow ho5'.out hb6'.out (Nat.le_refl _)) hb9.out (Nat.le_refl _))
         clear hb9q))
    go_ret
    exact ⟨rfl, (((((hb1.trans (hbv.mono (by omega))).trans (hb3.mono (by have := hbv.size; omega))).trans (hb4.mono (by have := hbv.size; omega))).trans (hb5.mono (by have := hbv.size; omega))).trans (hb6'.out.mono (by have := hbv.size; omega))).trans (hb9.out.mono (by have := hbv.size; omega))⟩

set_option maxRecDepth 100000 in
/-- Where the text is longer than the statement speaks of. -/
theorem lawTextsBig (w : World) (which : Int) (A : Option Addr) (n c : Nat) (asB : Bool) (hn : 2147483647 < n) (hm : n ≤ 9223372036854775807) :
    Calls Tryz.prog 3 #[.int .u8 which, .slice A n c, .bool asB] w fun e w' => e = .returned (.bool true) ∧ Below w.heap.size w w' := by
  have hn' : (2147483647 : Int) < n := by omega
  go_enter Tryz.func3, Tryz.ntmps3
  go_wp2
  go_ret
  exact ⟨rfl, Below.refl _ _⟩
end Go.Proofs.YtipoenpakjpokaaGreatDoor
