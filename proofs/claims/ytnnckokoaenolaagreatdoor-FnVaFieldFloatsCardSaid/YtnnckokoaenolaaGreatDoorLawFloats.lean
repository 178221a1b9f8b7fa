/- The law of floats: its walk. -/
import Derived.Test.YtnnckokoaenolaaGreatDoorFltRun
import Derived.Test.YtnnckokoaenolaaGreatDoorLawInts
set_option linter.unusedVariables false
set_option linter.unusedSimpArgs false
namespace Go.Proofs.YtnnckokoaenolaaGreatDoor
open Go.RowKit

theorem allOnes {w : World} {g k : Nat} (hk : k ≤ 8) (h : w.heap[g]? = some (.cells #[.int .u8 255, .int .u8 255, .int .u8 255, .int .u8 255, .int .u8 255, .int .u8 255, .int .u8 255, .int .u8 255] 5 (0, 0))) : Input w g 0 k 8 (List.replicate k 255) := by
  refine ⟨by simp, hk, by decide, fun j hj => ?_⟩
  simp only [List.length_replicate] at hj
  rw [cellOf h]
  simp only [List.getElem_replicate]
  rcases (show j = 0 ∨ j = 1 ∨ j = 2 ∨ j = 3 ∨ j = 4 ∨ j = 5 ∨ j = 6 ∨ j = 7 by omega) with rfl | rfl | rfl | rfl | rfl | rfl | rfl | rfl <;> rfl

set_option maxRecDepth 100000 in
set_option maxHeartbeats 4000000 in
theorem lawFloatsL (w : World) (x : Nat) (hx : x < 2 ^ 64) :
    Calls Tryz.prog 6 #[.bool false, .float .f64 x] w fun e w' => e = .returned (.bool true) ∧ Below w.heap.size w w' := by
  have hV := Lib.hid (vaLow_any w x hx 8 (by decide))
  have hx' := Lib.hid hx; clear hx
  go_enter Tryz.func6, Tryz.ntmps6
  go_wp2_with fail
  refine hV.out.mono ?_
  rintro e w1 ⟨vl, rfl, how, hb1⟩
  clear hV
  obtain ⟨gw, cw, rfl, _, hgwl, hinw⟩ := Input.of_row how (by omega)
  clear how
  by_cases hf : Fin64 x
  rotate_left
  · obtain ⟨r, hsub, hne⟩ := run_sub_inf w1 hf
    have hne' : (FloatKind.f64.format.order r 0 != some Ordering.eq) = true := by simpa using hne
    go_wp2
    go_ret
    exact ⟨by simp, hb1.drew⟩
  have hsub := run_sub_fin w1 hf
  have h00 := order_00
  have hxx := fin_order hf
  have hxl := Lib.hid (fin_lt hf hx'.out)
  clear hf hx'
  go_wp2_with fail
  refine (fbDouble w1 x hxl.out).mono ?_
  rintro e w2 ⟨vo, rfl, ho, hb2⟩
  have hbw2 := hb1.trans (hb2.mono hb1.size)
  obtain ⟨g, co, rfl, hg, hgl, hin⟩ := Input.of_row ho (by omega)
  clear ho
  go_wp2_with fail
  refine (foDouble w2 x hxl.out g 0 co hin hgl).mono ?_
  rintro e w3 ⟨rfl, hb3⟩
  have hbw3 := hbw2.trans (hb3.mono hbw2.size)
  have hin3 := hin.below hb3 hgl
  have hgl3 : g < w3.heap.size := Nat.lt_of_lt_of_le hgl hb3.size
  have hinw3 := (hinw.below hb2 hgwl).below hb3 (Nat.lt_of_lt_of_le hgwl hb2.size)
  have hgw3 : gw < w3.heap.size := Nat.lt_of_lt_of_le (Nat.lt_of_lt_of_le hgwl hb2.size) hb3.size
  have q6 : (w3.alloc (.cells noVal 34)).heap[w3.heap.size]? = some (.cells noVal 34 (0, 0)) := blk_new _ _
  obtain ⟨W5, hW5⟩ : ∃ W, W = (w3.alloc (.cells noVal 34)).setRow w3.heap.size (fltVal x) := ⟨_, rfl⟩
  have q7 : W5.heap[w3.heap.size]? = some (.cells (fltVal x) 34 (0, 0)) := by rw [hW5]; exact setRow_heap _ _ _ _ _ _ q6
  have b5 : Below w3.heap.size w3 W5 := by rw [hW5]; exact below_setRow ((Below.refl _ w3).alloc (Nat.le_refl _) _) (Nat.le_refl _) _
  replace hW5 := Lib.hid hW5
  have hin5 := hin3.below b5 hgl3
  have hinw5 := hinw3.below b5 hgw3
  have hbw5 := hbw3.trans (b5.mono hbw3.size)
  have zw3 := hbw3.size
  have z5 := sizeOf_blk q7
  have z5' := b5.size
  clear hb1 hb2 hb3 hgwl hinw hin hbw2 hbw3 hin3 hinw3 hg hgl b5
  go_wp2_with (refine store_valW rfl (.tmp 10) (.tmp 44) rfl _ rfl (fltVal x) rfl noVal q6 rfl rfl (plain1 3 false 0 x none 0 0) W5 hW5.out ?_)
  have S5 : ∀ w', Below W5.heap.size W5 w' → (convert 23 9 (.slice (some ⟨g, 0, none⟩) 9 co)).run Tryz.prog w' = .ok (.string (strOfNums (7 :: leB x 8))) w' ∧
      w'.cell? ⟨w3.heap.size, 0, none⟩ = some (.int .i64 3) ∧ w'.cell? ⟨w3.heap.size, 3, none⟩ = some (.float .f64 x) := by
    intro w' hb
    have h7 := (hb.block _ z5).trans q7
    exact ⟨conv_input (hin5.below hb (by omega)), cellOf h7 0, cellOf h7 3⟩
  have S5' := Lib.hid S5; clear S5
  obtain ⟨i0, hi0, hz0, hz1, hz2⟩ := info_parts Tryz.info5
  refine wp_region_noPanic ?_
  refine wp_region_held_drew (S := fun w' => (convert 23 9 (.slice (some ⟨g, 0, none⟩) 9 co)).run Tryz.prog w' = .ok (.string (strOfNums (7 :: leB x 8))) w' ∧ w'.cell? ⟨w3.heap.size, 0, none⟩ = some (.int .i64 3) ∧ w'.cell? ⟨w3.heap.size, 3, none⟩ = some (.float .f64 x)) (by kernel_rfl) ?_ (fun hHeld => ?_)
  · first | exact S5'.out _ (Below.drew (Below.refl _ _)) | exact S5'.out _ (Below.drew ((Below.refl _ _).alloc (Nat.le_refl _) _)) | exact S5'.out _ hB6.out
  refine wpAnyH_take (i := 0) (oi := ⟨_, _, _, _, _, _⟩) (v := ?_) rfl (by kernel_rfl) (by kernel_rfl) (by kernel_rfl) (fun _ _ _ h => h) (Or.inl ⟨by rfl, ?_⟩) (by assumption) ?_
  rotate_left
  · intro w hSw; (try dsimp only at hSw); go_simp; try with_reducible rfl
  try simp only [Act.put, List.setIfInBounds_toArray, List.set_cons_zero, List.set_cons_succ]
  refine wpAnyH_take (i := 1) (oi := ⟨_, _, _, _, _, _⟩) (v := ?_) rfl (by kernel_rfl) (by kernel_rfl) (by kernel_rfl) (fun _ _ _ h => h) (Or.inl ⟨by rfl, ?_⟩) (by assumption) ?_
  rotate_left
  · intro w hSw; (try dsimp only at hSw); go_simp; try with_reducible rfl
  try simp only [Act.put, List.setIfInBounds_toArray, List.set_cons_zero, List.set_cons_succ]
  refine wpAnyH_take (i := 2) (oi := ⟨_, _, _, _, _, _⟩) (v := ?_) rfl (by kernel_rfl) (by kernel_rfl) (by kernel_rfl) (fun _ _ _ h => h) (Or.inl ⟨by rfl, ?_⟩) (by assumption) ?_
  rotate_left
  · intro w hSw; (try dsimp only at hSw); go_simp; try with_reducible rfl
  try simp only [Act.put, List.setIfInBounds_toArray, List.set_cons_zero, List.set_cons_succ]
  refine wpAnyH_take (i := 3) (oi := ⟨_, _, _, _, _, _⟩) (v := ?_) rfl (by kernel_rfl) (by kernel_rfl) (by kernel_rfl) (fun _ _ _ h => h) (Or.inl ⟨by rfl, ?_⟩) (by assumption) ?_
  rotate_left
  · intro w hSw; (try dsimp only at hSw); go_simp; try with_reducible rfl
  try simp only [Act.put, List.setIfInBounds_toArray, List.set_cons_zero, List.set_cons_succ]
  refine wpAnyH_take (i := 4) (oi := ⟨_, _, _, _, _, _⟩) (v := ?_) rfl (by kernel_rfl) (by kernel_rfl) (by kernel_rfl) (fun _ _ _ h => h) (Or.inl ⟨by rfl, ?_⟩) (by assumption) ?_
  rotate_left
  · intro w hSw; (try dsimp only at hSw); go_simp; try with_reducible rfl
  try simp only [Act.put, List.setIfInBounds_toArray, List.set_cons_zero, List.set_cons_succ]
  refine wpAnyH_take (i := 5) (oi := ⟨_, _, _, _, _, _⟩) (v := ?_) rfl (by kernel_rfl) (by kernel_rfl) (by kernel_rfl) (fun _ _ _ h => h) (Or.inl ⟨by rfl, ?_⟩) (by assumption) ?_
  rotate_left
  · intro w hSw; (try dsimp only at hSw); go_simp; try with_reducible rfl
  try simp only [Act.put, List.setIfInBounds_toArray, List.set_cons_zero, List.set_cons_succ]
  refine wpAnyH_take (i := 6) (oi := ⟨_, _, _, _, _, _⟩) (v := ?_) rfl (by kernel_rfl) (by kernel_rfl) (by kernel_rfl) (fun _ _ _ h => h) (Or.inl ⟨by rfl, ?_⟩) (by assumption) ?_
  rotate_left
  · intro w hSw; (try dsimp only at hSw); go_simp; try with_reducible rfl
  try simp only [Act.put, List.setIfInBounds_toArray, List.set_cons_zero, List.set_cons_succ]
  refine wpAnyH_take (i := 7) (oi := ⟨_, _, _, _, _, _⟩) (v := ?_) rfl (by kernel_rfl) (by kernel_rfl) (by kernel_rfl) (fun _ _ _ h => h) (Or.inl ⟨by rfl, ?_⟩) (by assumption) ?_
  rotate_left
  · intro w hSw; (try dsimp only at hSw); go_simp; try with_reducible rfl
  try simp only [Act.put, List.setIfInBounds_toArray, List.set_cons_zero, List.set_cons_succ]
  refine wpAnyH_take (i := 8) (oi := ⟨_, _, _, _, _, _⟩) (v := ?_) rfl (by kernel_rfl) (by kernel_rfl) (by kernel_rfl) (fun _ _ _ h => h) (Or.inl ⟨by rfl, ?_⟩) (by assumption) ?_
  rotate_left
  · intro w hSw; (try dsimp only at hSw); go_simp; try with_reducible rfl
  try simp only [Act.put, List.setIfInBounds_toArray, List.set_cons_zero, List.set_cons_succ]
  refine wpAnyH_take (i := 9) (oi := ⟨_, _, _, _, _, _⟩) (v := ?_) rfl (by kernel_rfl) (by kernel_rfl) (by kernel_rfl) (fun _ _ _ h => h) (Or.inl ⟨by rfl, ?_⟩) (by assumption) ?_
  rotate_left
  · intro w hSw; (try dsimp only at hSw); go_simp; try with_reducible rfl
  try simp only [Act.put, List.setIfInBounds_toArray, List.set_cons_zero, List.set_cons_succ]
  refine wpAnyH_take (i := 10) (oi := ⟨_, _, _, _, _, _⟩) (v := ?_) rfl (by kernel_rfl) (by kernel_rfl) (by kernel_rfl) (fun _ _ _ h => h) (Or.inl ⟨by rfl, ?_⟩) (by assumption) ?_
  rotate_left
  · intro w hSw; (try dsimp only at hSw); go_simp; try with_reducible rfl
  try simp only [Act.put, List.setIfInBounds_toArray, List.set_cons_zero, List.set_cons_succ]
  refine wpAnyH_take (i := 11) (oi := ⟨_, _, _, _, _, _⟩) (v := ?_) rfl (by kernel_rfl) (by kernel_rfl) (by kernel_rfl) (fun _ _ _ h => h) (Or.inl ⟨by rfl, ?_⟩) (by assumption) ?_
  rotate_left
  · intro w hSw; (try dsimp only at hSw); go_simp; try with_reducible rfl
  try simp only [Act.put, List.setIfInBounds_toArray, List.set_cons_zero, List.set_cons_succ]
  refine wpAnyH_take (i := 12) (oi := ⟨_, _, _, _, _, _⟩) (v := ?_) rfl (by kernel_rfl) (by kernel_rfl) (by kernel_rfl) (fun _ _ _ h => h) (Or.inl ⟨by rfl, ?_⟩) (by assumption) ?_
  rotate_left
  · intro w hSw; (try dsimp only at hSw); go_simp; try with_reducible rfl
  try simp only [Act.put, List.setIfInBounds_toArray, List.set_cons_zero, List.set_cons_succ]
  refine wpAnyH_take (i := 13) (oi := ⟨_, _, _, _, _, _⟩) (v := ?_) rfl (by kernel_rfl) (by kernel_rfl) (by kernel_rfl) (fun _ _ _ h => h) (Or.inl ⟨by rfl, ?_⟩) (by assumption) ?_
  rotate_left
  · intro w hSw; (try dsimp only at hSw); go_simp; try with_reducible rfl
  try simp only [Act.put, List.setIfInBounds_toArray, List.set_cons_zero, List.set_cons_succ]
  refine wpAnyH_take (i := 14) (oi := ⟨_, _, _, _, _, _⟩) (v := ?_) rfl (by kernel_rfl) (by kernel_rfl) (by kernel_rfl) (fun _ _ _ h => h) (Or.inl ⟨by rfl, ?_⟩) (by assumption) ?_
  rotate_left
  · intro w hSw; (try dsimp only at hSw); go_simp; try with_reducible rfl
  try simp only [Act.put, List.setIfInBounds_toArray, List.set_cons_zero, List.set_cons_succ]
  refine wpAnyH_take (i := 15) (oi := ⟨_, _, _, _, _, _⟩) (v := ?_) rfl (by kernel_rfl) (by kernel_rfl) (by kernel_rfl) (fun _ _ _ h => h) (Or.inl ⟨by rfl, ?_⟩) (by assumption) ?_
  rotate_left
  · intro w hSw; (try dsimp only at hSw); go_simp; try with_reducible rfl
  try simp only [Act.put, List.setIfInBounds_toArray, List.set_cons_zero, List.set_cons_succ]
  refine wpAnyH_take (i := 16) (oi := ⟨_, _, _, _, _, _⟩) (v := ?_) rfl (by kernel_rfl) (by kernel_rfl) (by kernel_rfl) (fun _ _ _ h => h) (Or.inl ⟨by rfl, ?_⟩) (by assumption) ?_
  rotate_left
  · intro w hSw; (try dsimp only at hSw); go_simp; try with_reducible rfl
  try simp only [Act.put, List.setIfInBounds_toArray, List.set_cons_zero, List.set_cons_succ]
  refine wpAnyH_take (i := 17) (oi := ⟨_, _, _, _, _, _⟩) (v := ?_) rfl (by kernel_rfl) (by kernel_rfl) (by kernel_rfl) (fun _ _ _ h => h) (Or.inl ⟨by rfl, ?_⟩) (by assumption) ?_
  rotate_left
  · intro w hSw; (try dsimp only at hSw); go_simp; try with_reducible rfl
  try simp only [Act.put, List.setIfInBounds_toArray, List.set_cons_zero, List.set_cons_succ]
  refine wpAnyH_take (i := 18) (oi := ⟨_, _, _, _, _, _⟩) (v := ?_) rfl (by kernel_rfl) (by kernel_rfl) (by kernel_rfl) (fun _ _ _ h => h) (Or.inl ⟨by rfl, ?_⟩) (by assumption) ?_
  rotate_left
  · intro w hSw; (try dsimp only at hSw); go_simp; try with_reducible rfl
  try simp only [Act.put, List.setIfInBounds_toArray, List.set_cons_zero, List.set_cons_succ]
  refine wpAnyH_take (i := 19) (oi := ⟨_, _, _, _, _, _⟩) (v := ?_) rfl (by kernel_rfl) (by kernel_rfl) (by kernel_rfl) (fun _ _ _ h => h) (Or.inl ⟨by rfl, ?_⟩) (by assumption) ?_
  rotate_left
  · intro w hSw; (try dsimp only at hSw); go_simp; try with_reducible rfl
  try simp only [Act.put, List.setIfInBounds_toArray, List.set_cons_zero, List.set_cons_succ]
  refine wpAnyH_take (i := 20) (oi := ⟨_, _, _, _, _, _⟩) (v := ?_) rfl (by kernel_rfl) (by kernel_rfl) (by kernel_rfl) (fun _ _ _ h => h) (Or.inl ⟨by rfl, ?_⟩) (by assumption) ?_
  rotate_left
  · intro w hSw; (try dsimp only at hSw); go_simp; try with_reducible rfl
  try simp only [Act.put, List.setIfInBounds_toArray, List.set_cons_zero, List.set_cons_succ]
  refine wpAnyH_take (i := 21) (oi := ⟨_, _, _, _, _, _⟩) (v := ?_) rfl (by kernel_rfl) (by kernel_rfl) (by kernel_rfl) (fun _ _ _ h => h) (Or.inl ⟨by rfl, ?_⟩) (by assumption) ?_
  rotate_left
  · intro w hSw; (try dsimp only at hSw); go_simp; try with_reducible rfl
  try simp only [Act.put, List.setIfInBounds_toArray, List.set_cons_zero, List.set_cons_succ]
  refine wpAnyH_take (i := 22) (oi := ⟨_, _, _, _, _, _⟩) (v := ?_) rfl (by kernel_rfl) (by kernel_rfl) (by kernel_rfl) (fun _ _ _ h => h) (Or.inl ⟨by rfl, ?_⟩) (by assumption) ?_
  rotate_left
  · intro w hSw; (try dsimp only at hSw); go_simp; try with_reducible rfl
  try simp only [Act.put, List.setIfInBounds_toArray, List.set_cons_zero, List.set_cons_succ]
  refine wpAnyH_take (i := 24) (oi := ⟨_, _, _, _, _, _⟩) (v := ?_) rfl (by kernel_rfl) (by kernel_rfl) (by kernel_rfl) (fun _ _ _ h => h) (Or.inl ⟨by rfl, ?_⟩) (by assumption) ?_
  rotate_left
  · intro w hSw; (try dsimp only at hSw); go_simp; try with_reducible rfl
  try simp only [Act.put, List.setIfInBounds_toArray, List.set_cons_zero, List.set_cons_succ]
  refine wpAnyH_ready (rs := [23]) (by kernel_rfl) (by simp) ?_
  refine AllReadyH.cons (o := ⟨_, _, _, _, _, _⟩) rfl (fun K hK => ?_) AllReadyH.nil
  go_simp
  refine hK.out _ _ ?_ (fun hHeld => ?_)
  · first | exact S5'.out _ (Below.drew (Below.refl _ _)) | exact S5'.out _ (Below.drew ((Below.refl _ _).alloc (Nat.le_refl _) _)) | exact S5'.out _ hB6.out
  clear hK K
  try simp only [Act.put, List.setIfInBounds_toArray, List.set_cons_zero, List.set_cons_succ]
  refine wpAnyH_ready (rs := [25]) (by kernel_rfl) (by simp) ?_
  refine AllReadyH.cons (o := ⟨_, _, _, _, _, _⟩) rfl (fun K hK => ?_) AllReadyH.nil
  refine step_append_g (by rfl) (.tmp 70) (.tmp 71) _ (by rfl) W5.heap.size 5 i0 _ 1 1 Tryz.underlying23 hi0 hz0 hz1 hz2 rfl (by decide) _ 1 (u8s [7]) (by rfl) ((litRow W5 7).drew) ⟨gw, 0, none⟩ 8 cw (u8s (leB x 8)) (by rfl) (by simp) (Input.news (hinw5.below (Below.drew ((Below.refl _ _).alloc (Nat.le_refl _) _)) (by omega))) (u8s_one _) (by omega) (by unfold maxLen; omega) (by omega) (by simp) (W5.heap.size + 1) (by simp) ?_; intro gg cap w6 hown6 hgrow hat hlt; have hcv6 := conv_row (bs := 7 :: leB x 8) hown6 (by omega); have hB6 := Lib.hid ((Below.drew ((Below.refl W5.heap.size W5).alloc (Nat.le_refl _) _)).grown hgrow (by simp) (fun x hx => by simp [Value.ownBlock] at hx; omega)); clear hown6 hgrow hat hlt
  refine hK.out _ _ ?_ (fun hHeld => ?_)
  · first | exact S5'.out _ (Below.drew (Below.refl _ _)) | exact S5'.out _ (Below.drew ((Below.refl _ _).alloc (Nat.le_refl _) _)) | exact S5'.out _ hB6.out
  clear hK K
  try simp only [Act.put, List.setIfInBounds_toArray, List.set_cons_zero, List.set_cons_succ]
  refine wpAnyH_ready (rs := [26]) (by kernel_rfl) (by simp) ?_
  refine AllReadyH.cons (o := ⟨_, _, _, _, _, _⟩) rfl (fun K hK => ?_) AllReadyH.nil
  go_simp
  refine hK.out _ _ ?_ (fun hHeld => ?_)
  · first | exact S5'.out _ (Below.drew (Below.refl _ _)) | exact S5'.out _ (Below.drew ((Below.refl _ _).alloc (Nat.le_refl _) _)) | exact S5'.out _ hB6.out
  clear hK K
  try simp only [Act.put, List.setIfInBounds_toArray, List.set_cons_zero, List.set_cons_succ]
  refine wpAnyH_take (i := 27) (oi := ⟨_, _, _, _, _, _⟩) (v := ?_) rfl (by kernel_rfl) (by kernel_rfl) (by kernel_rfl) (fun _ _ _ h => h) (Or.inl ⟨by rfl, ?_⟩) (by assumption) ?_
  rotate_left
  · intro w hSw; (try dsimp only at hSw); go_simp; try with_reducible rfl
  try simp only [Act.put, List.setIfInBounds_toArray, List.set_cons_zero, List.set_cons_succ]
  refine wpAnyH_take (i := 28) (oi := ⟨_, _, _, _, _, _⟩) (v := ?_) rfl (by kernel_rfl) (by kernel_rfl) (by kernel_rfl) (fun _ _ _ h => h) (Or.inl ⟨by rfl, ?_⟩) (by assumption) ?_
  rotate_left
  · intro w hSw; (try dsimp only at hSw); go_simp; try with_reducible rfl
  try simp only [Act.put, List.setIfInBounds_toArray, List.set_cons_zero, List.set_cons_succ]
  refine wpAnyH_take (i := 29) (oi := ⟨_, _, _, _, _, _⟩) (v := ?_) rfl (by kernel_rfl) (by kernel_rfl) (by kernel_rfl) (fun _ _ _ h => h) (Or.inl ⟨by rfl, ?_⟩) (by assumption) ?_
  rotate_left
  · intro w hSw; (try dsimp only at hSw); go_simp; try with_reducible rfl
  try simp only [Act.put, List.setIfInBounds_toArray, List.set_cons_zero, List.set_cons_succ]
  refine wpAnyH_take (i := 30) (oi := ⟨_, _, _, _, _, _⟩) (v := ?_) rfl (by kernel_rfl) (by kernel_rfl) (by kernel_rfl) (fun _ _ _ h => h) (Or.inl ⟨by rfl, ?_⟩) (by assumption) ?_
  rotate_left
  · intro w hSw; (try dsimp only at hSw); go_simp; try with_reducible rfl
  try simp only [Act.put, List.setIfInBounds_toArray, List.set_cons_zero, List.set_cons_succ]
  refine wpAnyH_take (i := 31) (oi := ⟨_, _, _, _, _, _⟩) (v := ?_) rfl (by kernel_rfl) (by kernel_rfl) (by kernel_rfl) (fun _ _ _ h => h) (Or.inl ⟨by rfl, ?_⟩) (by assumption) ?_
  rotate_left
  · intro w hSw; (try dsimp only at hSw); go_simp; try with_reducible rfl
  try simp only [Act.put, List.setIfInBounds_toArray, List.set_cons_zero, List.set_cons_succ]
  refine wpAnyH_take (i := 32) (oi := ⟨_, _, _, _, _, _⟩) (v := ?_) rfl (by kernel_rfl) (by kernel_rfl) (by kernel_rfl) (fun _ _ _ h => h) (Or.inl ⟨by rfl, ?_⟩) (by assumption) ?_
  rotate_left
  · intro w hSw; (try dsimp only at hSw); go_simp; try with_reducible rfl
  try simp only [Act.put, List.setIfInBounds_toArray, List.set_cons_zero, List.set_cons_succ]
  refine wpAnyH_take (i := 33) (oi := ⟨_, _, _, _, _, _⟩) (v := ?_) rfl (by kernel_rfl) (by kernel_rfl) (by kernel_rfl) (fun _ _ _ h => h) (Or.inl ⟨by rfl, ?_⟩) (by assumption) ?_
  rotate_left
  · intro w hSw; (try dsimp only at hSw); go_simp; try with_reducible rfl
  try simp only [Act.put, List.setIfInBounds_toArray, List.set_cons_zero, List.set_cons_succ]
  refine wpAnyH_take (i := 34) (oi := ⟨_, _, _, _, _, _⟩) (v := ?_) rfl (by kernel_rfl) (by kernel_rfl) (by kernel_rfl) (fun _ _ _ h => h) (Or.inl ⟨by rfl, ?_⟩) (by assumption) ?_
  rotate_left
  · intro w hSw; (try dsimp only at hSw); go_simp; try with_reducible rfl
  try simp only [Act.put, List.setIfInBounds_toArray, List.set_cons_zero, List.set_cons_succ]
  refine wpAnyH_take (i := 35) (oi := ⟨_, _, _, _, _, _⟩) (v := ?_) rfl (by kernel_rfl) (by kernel_rfl) (by kernel_rfl) (fun _ _ _ h => h) (Or.inl ⟨by rfl, ?_⟩) (by assumption) ?_
  rotate_left
  · intro w hSw; (try dsimp only at hSw); go_simp; try with_reducible rfl
  try simp only [Act.put, List.setIfInBounds_toArray, List.set_cons_zero, List.set_cons_succ]
  refine wpAnyH_take (i := 36) (oi := ⟨_, _, _, _, _, _⟩) (v := ?_) rfl (by kernel_rfl) (by kernel_rfl) (by kernel_rfl) (fun _ _ _ h => h) (Or.inl ⟨by rfl, ?_⟩) (by assumption) ?_
  rotate_left
  · intro w hSw; (try dsimp only at hSw); go_simp; try with_reducible rfl
  try simp only [Act.put, List.setIfInBounds_toArray, List.set_cons_zero, List.set_cons_succ]
  refine wpAnyH_take (i := 37) (oi := ⟨_, _, _, _, _, _⟩) (v := ?_) rfl (by kernel_rfl) (by kernel_rfl) (by kernel_rfl) (fun _ _ _ h => h) (Or.inl ⟨by rfl, ?_⟩) (by assumption) ?_
  rotate_left
  · intro w hSw; (try dsimp only at hSw); go_simp; try with_reducible rfl
  try simp only [Act.put, List.setIfInBounds_toArray, List.set_cons_zero, List.set_cons_succ]
  refine wpAnyH_take (i := 38) (oi := ⟨_, _, _, _, _, _⟩) (v := ?_) rfl (by kernel_rfl) (by kernel_rfl) (by kernel_rfl) (fun _ _ _ h => h) (Or.inl ⟨by rfl, ?_⟩) (by assumption) ?_
  rotate_left
  · intro w hSw; (try dsimp only at hSw); go_simp; try with_reducible rfl
  try simp only [Act.put, List.setIfInBounds_toArray, List.set_cons_zero, List.set_cons_succ]
  refine wpAnyH_take (i := 39) (oi := ⟨_, _, _, _, _, _⟩) (v := ?_) rfl (by kernel_rfl) (by kernel_rfl) (by kernel_rfl) (fun _ _ _ h => h) (Or.inl ⟨by rfl, ?_⟩) (by assumption) ?_
  rotate_left
  · intro w hSw; (try dsimp only at hSw); go_simp; try with_reducible rfl
  try simp only [Act.put, List.setIfInBounds_toArray, List.set_cons_zero, List.set_cons_succ]
  refine wpAnyH_done (by kernel_rfl) ?_ _
  refine NoPanic.normal ?_
  clear hHeld hcv6
  have hz6 := hB6.out.size
  have hin6 := hinw5.below hB6.out (by omega)
  have hgw6 : gw < w6.heap.size := by omega
  have q76 := (hB6.out.block _ z5).trans q7
  have hbw6 := hbw5.trans (hB6.out.mono hbw5.size)
  have z36 : w3.heap.size < w6.heap.size := by omega
  clear S5' q6 q7 hin5 hinw5 hbw5 hB6 hgl3 hgw3 hW5
  go_wp2_with fail
  refine (roDouble w6 x hxl.out gw 0 cw hin6 hgw6).mono ?_
  rintro e w8 ⟨rfl, hb8⟩
  have q8 := (hb8.block _ z36).trans q76
  obtain ⟨W9, hW9⟩ : ∃ W, W = w8.setRow w3.heap.size (fltVal x) := ⟨_, rfl⟩
  have q9 : W9.heap[w3.heap.size]? = some (.cells (fltVal x) 34 (0, 0)) := by rw [hW9]; exact setRow_heap _ _ _ _ _ _ q8
  have b9 : Below w.heap.size w W9 := by
    rw [hW9]
    exact below_setRow (hbw6.trans (hb8.mono hbw6.size)) zw3 _
  replace hW9 := Lib.hid hW9
  clear hb8 hin6
  go_wp2_with (refine store_valW rfl (.tmp 10) (.tmp 91) rfl _ rfl (fltVal x) rfl (fltVal x) q8 rfl rfl (plain1 3 false 0 x none 0 0) W9 hW9.out ?_)
  have z9 := sizeOf_blk q9
  refine (roNDouble _ W9.heap.size 0 8 (allOnes (by decide) (blk_new W9 _)) (by simp)).mono ?_
  rintro e w10 ⟨rfl, hb10⟩
  have q10 : w10.heap[w3.heap.size]? = some (.cells (fltVal x) 34 (0, 0)) := (hb10.block _ (by simp; omega)).trans (blk_alloc q9 _)
  have b10 : Below w.heap.size w w10 := (b9.alloc (by omega) _).trans (hb10.mono (by simp; omega))
  have qa : (w10.alloc (.cells noVal 34)).heap[w10.heap.size]? = some (.cells noVal 34 (0, 0)) := blk_new _ _
  obtain ⟨W11, hW11⟩ : ∃ W, W = (w10.alloc (.cells noVal 34)).setRow w10.heap.size noVal := ⟨_, rfl⟩
  have qb : W11.heap[w10.heap.size]? = some (.cells noVal 34 (0, 0)) := by rw [hW11]; exact setRow_heap _ _ _ _ _ _ qa
  have b11 : Below w10.heap.size w10 W11 := by rw [hW11]; exact below_setRow ((Below.refl _ w10).alloc (Nat.le_refl _) _) (Nat.le_refl _) _
  have qc := (b11.block _ (sizeOf_blk q10)).trans q10
  replace hW11 := Lib.hid hW11
  have k0 : W11.cell? ⟨w3.heap.size, 0, none⟩ = some (.int .i64 3) := cellOf qc 0
  have k1 : W11.cell? ⟨w3.heap.size, 3, none⟩ = some (.float .f64 x) := cellOf qc 3
  have k2 : W11.cell? ⟨w10.heap.size, 0, none⟩ = some (.int .i64 0) := cellOf qb 0
  have bE := b10.trans (b11.mono (by have := b10.size; omega))
  clear b10 b11 hb10 q10 b9 qb qc
  go_wp2_with (refine store_valW rfl (.tmp 13) (.tmp 101) rfl _ rfl noVal rfl noVal qa rfl rfl (plain1 0 false 0 0 none 0 0) W11 hW11.out ?_)
  go_ret
  exact ⟨by simp, bE⟩

set_option maxRecDepth 100000 in
set_option maxHeartbeats 4000000 in
theorem lawFloatsS (w : World) (x : Nat) (hx : x < 2 ^ 64) :
    Calls Tryz.prog 6 #[.bool true, .float .f64 x] w fun e w' => e = .returned (.bool true) ∧ Below w.heap.size w w' := by
  have hV := Lib.hid (vaLow_any w x hx 8 (by decide))
  clear hx
  go_enter Tryz.func6, Tryz.ntmps6
  go_wp2_with fail
  refine hV.out.mono ?_
  rintro e v1 ⟨vl, rfl, -, hv1⟩
  clear hV
  obtain ⟨b, v2, hc1, hblt, hv2⟩ := narrow_any v1 x
  obtain ⟨y, v3, hc2, hy, hv3⟩ := widen_any v2 b hblt
  have hv3' : Below w.heap.size w v3 := by
    rcases hv2 with rfl | rfl <;> rcases hv3 with rfl | rfl
    · exact hv1
    · exact hv1.drew
    · exact hv1.drew
    · exact hv1.drew.drew
  clear hv1 hv2 hv3
  by_cases hf : Fin64 y
  rotate_left
  · clear hy
    obtain ⟨b2, v4, hc3, hblt2, hv4⟩ := narrow_any v3 y
    have hv4' : Below w.heap.size w v4 := by
      rcases hv4 with rfl | rfl
      · exact hv3'
      · exact hv3'.drew
    have hbl := Lib.hid hblt2
    have hwb : IntKind.u64.wrap (b2 : Int) = (b2 : Int) := by simp [IntKind.wrap, IntKind.bits, IntKind.signed]; omega
    clear hv3' hv4 hblt hblt2
    go_wp2_with fail
    refine (vaLow_any v4 b2 (by have := hbl.out; omega) 4 (by decide)).mono ?_
    rintro e w1 ⟨vl4, rfl, -, hb1⟩
    obtain ⟨r, hsub, hne⟩ := run_sub_inf w1 hf
    have hne' : (FloatKind.f64.format.order r 0 != some Ordering.eq) = true := by simpa using hne
    go_wp2
    go_ret
    exact ⟨by simp, (hv4'.trans (hb1.mono hv4'.size)).drew⟩
  have hs : Short y b := by rcases hy with h | h; exact h.1; exact absurd hf h
  clear hy
  have hsh := Lib.hid hs
  have hc3 := hs.toShort
  have hbl := Lib.hid hblt
  have hwb : IntKind.u64.wrap (b : Int) = (b : Int) := by simp [IntKind.wrap, IntKind.bits, IntKind.signed]; omega
  clear hs hblt
  go_wp2_with fail
  refine (vaLow_any v3 b (by have := hbl.out; omega) 4 (by decide)).mono ?_
  rintro e w1 ⟨vl4, rfl, how, hb1'⟩
  have hb1 := hv3'.trans (hb1'.mono hv3'.size)
  obtain ⟨gw, cw, rfl, _, hgwl, hinw⟩ := Input.of_row how (by omega)
  clear how hb1' hc1 hc2 hc3 hv3'
  have hsub := run_sub_fin w1 hf
  have h00 := order_00
  have hxx := fin_order hf
  clear hf
  go_wp2_with fail
  refine (fbReal w1 y b hsh.out).mono ?_
  rintro e w2 ⟨vo, rfl, ho, hb2⟩
  have hbw2 := hb1.trans (hb2.mono hb1.size)
  obtain ⟨g, co, rfl, hg, hgl, hin⟩ := Input.of_row ho (by omega)
  clear ho
  go_wp2_with fail
  refine (foReal w2 y b hsh.out g 0 co hin hgl).mono ?_
  rintro e w3 ⟨rfl, hb3⟩
  have hbw3 := hbw2.trans (hb3.mono hbw2.size)
  have hin3 := hin.below hb3 hgl
  have hgl3 : g < w3.heap.size := Nat.lt_of_lt_of_le hgl hb3.size
  have hinw3 := (hinw.below hb2 hgwl).below hb3 (Nat.lt_of_lt_of_le hgwl hb2.size)
  have hgw3 : gw < w3.heap.size := Nat.lt_of_lt_of_le (Nat.lt_of_lt_of_le hgwl hb2.size) hb3.size
  have q6 : (w3.alloc (.cells noVal 34)).heap[w3.heap.size]? = some (.cells noVal 34 (0, 0)) := blk_new _ _
  obtain ⟨W5, hW5⟩ : ∃ W, W = (w3.alloc (.cells noVal 34)).setRow w3.heap.size (fltVal y) := ⟨_, rfl⟩
  have q7 : W5.heap[w3.heap.size]? = some (.cells (fltVal y) 34 (0, 0)) := by rw [hW5]; exact setRow_heap _ _ _ _ _ _ q6
  have b5 : Below w3.heap.size w3 W5 := by rw [hW5]; exact below_setRow ((Below.refl _ w3).alloc (Nat.le_refl _) _) (Nat.le_refl _) _
  replace hW5 := Lib.hid hW5
  have hin5 := hin3.below b5 hgl3
  have hinw5 := hinw3.below b5 hgw3
  have hbw5 := hbw3.trans (b5.mono hbw3.size)
  have zw3 := hbw3.size
  have z5 := sizeOf_blk q7
  have z5' := b5.size
  clear hb1 hb2 hb3 hgwl hinw hin hbw2 hbw3 hin3 hinw3 hg hgl b5
  go_wp2_with (refine store_valW rfl (.tmp 10) (.tmp 44) rfl _ rfl (fltVal y) rfl noVal q6 rfl rfl (plain1 3 false 0 y none 0 0) W5 hW5.out ?_)
  have S5 : ∀ w', Below W5.heap.size W5 w' → (convert 23 9 (.slice (some ⟨g, 0, none⟩) 5 co)).run Tryz.prog w' = .ok (.string (strOfNums (6 :: leB b 4))) w' ∧
      w'.cell? ⟨w3.heap.size, 0, none⟩ = some (.int .i64 3) ∧ w'.cell? ⟨w3.heap.size, 3, none⟩ = some (.float .f64 y) := by
    intro w' hb
    have h7 := (hb.block _ z5).trans q7
    exact ⟨conv_input (hin5.below hb (by omega)), cellOf h7 0, cellOf h7 3⟩
  have S5' := Lib.hid S5; clear S5
  obtain ⟨i0, hi0, hz0, hz1, hz2⟩ := info_parts Tryz.info5
  refine wp_region_noPanic ?_
  refine wp_region_held_drew (S := fun w' => (convert 23 9 (.slice (some ⟨g, 0, none⟩) 5 co)).run Tryz.prog w' = .ok (.string (strOfNums (6 :: leB b 4))) w' ∧ w'.cell? ⟨w3.heap.size, 0, none⟩ = some (.int .i64 3) ∧ w'.cell? ⟨w3.heap.size, 3, none⟩ = some (.float .f64 y)) (by kernel_rfl) ?_ (fun hHeld => ?_)
  · first | exact S5'.out _ (Below.drew (Below.refl _ _)) | exact S5'.out _ (Below.drew ((Below.refl _ _).alloc (Nat.le_refl _) _)) | exact S5'.out _ hB6.out
  refine wpAnyH_take (i := 0) (oi := ⟨_, _, _, _, _, _⟩) (v := ?_) rfl (by kernel_rfl) (by kernel_rfl) (by kernel_rfl) (fun _ _ _ h => h) (Or.inl ⟨by rfl, ?_⟩) (by assumption) ?_
  rotate_left
  · intro w hSw; (try dsimp only at hSw); go_simp; try with_reducible rfl
  try simp only [Act.put, List.setIfInBounds_toArray, List.set_cons_zero, List.set_cons_succ]
  refine wpAnyH_take (i := 1) (oi := ⟨_, _, _, _, _, _⟩) (v := ?_) rfl (by kernel_rfl) (by kernel_rfl) (by kernel_rfl) (fun _ _ _ h => h) (Or.inl ⟨by rfl, ?_⟩) (by assumption) ?_
  rotate_left
  · intro w hSw; (try dsimp only at hSw); go_simp; try with_reducible rfl
  try simp only [Act.put, List.setIfInBounds_toArray, List.set_cons_zero, List.set_cons_succ]
  refine wpAnyH_take (i := 2) (oi := ⟨_, _, _, _, _, _⟩) (v := ?_) rfl (by kernel_rfl) (by kernel_rfl) (by kernel_rfl) (fun _ _ _ h => h) (Or.inl ⟨by rfl, ?_⟩) (by assumption) ?_
  rotate_left
  · intro w hSw; (try dsimp only at hSw); go_simp; try with_reducible rfl
  try simp only [Act.put, List.setIfInBounds_toArray, List.set_cons_zero, List.set_cons_succ]
  refine wpAnyH_take (i := 3) (oi := ⟨_, _, _, _, _, _⟩) (v := ?_) rfl (by kernel_rfl) (by kernel_rfl) (by kernel_rfl) (fun _ _ _ h => h) (Or.inl ⟨by rfl, ?_⟩) (by assumption) ?_
  rotate_left
  · intro w hSw; (try dsimp only at hSw); go_simp; try with_reducible rfl
  try simp only [Act.put, List.setIfInBounds_toArray, List.set_cons_zero, List.set_cons_succ]
  refine wpAnyH_take (i := 4) (oi := ⟨_, _, _, _, _, _⟩) (v := ?_) rfl (by kernel_rfl) (by kernel_rfl) (by kernel_rfl) (fun _ _ _ h => h) (Or.inl ⟨by rfl, ?_⟩) (by assumption) ?_
  rotate_left
  · intro w hSw; (try dsimp only at hSw); go_simp; try with_reducible rfl
  try simp only [Act.put, List.setIfInBounds_toArray, List.set_cons_zero, List.set_cons_succ]
  refine wpAnyH_take (i := 5) (oi := ⟨_, _, _, _, _, _⟩) (v := ?_) rfl (by kernel_rfl) (by kernel_rfl) (by kernel_rfl) (fun _ _ _ h => h) (Or.inl ⟨by rfl, ?_⟩) (by assumption) ?_
  rotate_left
  · intro w hSw; (try dsimp only at hSw); go_simp; try with_reducible rfl
  try simp only [Act.put, List.setIfInBounds_toArray, List.set_cons_zero, List.set_cons_succ]
  refine wpAnyH_take (i := 6) (oi := ⟨_, _, _, _, _, _⟩) (v := ?_) rfl (by kernel_rfl) (by kernel_rfl) (by kernel_rfl) (fun _ _ _ h => h) (Or.inl ⟨by rfl, ?_⟩) (by assumption) ?_
  rotate_left
  · intro w hSw; (try dsimp only at hSw); go_simp; try with_reducible rfl
  try simp only [Act.put, List.setIfInBounds_toArray, List.set_cons_zero, List.set_cons_succ]
  refine wpAnyH_take (i := 7) (oi := ⟨_, _, _, _, _, _⟩) (v := ?_) rfl (by kernel_rfl) (by kernel_rfl) (by kernel_rfl) (fun _ _ _ h => h) (Or.inl ⟨by rfl, ?_⟩) (by assumption) ?_
  rotate_left
  · intro w hSw; (try dsimp only at hSw); go_simp; try with_reducible rfl
  try simp only [Act.put, List.setIfInBounds_toArray, List.set_cons_zero, List.set_cons_succ]
  refine wpAnyH_take (i := 8) (oi := ⟨_, _, _, _, _, _⟩) (v := ?_) rfl (by kernel_rfl) (by kernel_rfl) (by kernel_rfl) (fun _ _ _ h => h) (Or.inl ⟨by rfl, ?_⟩) (by assumption) ?_
  rotate_left
  · intro w hSw; (try dsimp only at hSw); go_simp; try with_reducible rfl
  try simp only [Act.put, List.setIfInBounds_toArray, List.set_cons_zero, List.set_cons_succ]
  refine wpAnyH_take (i := 9) (oi := ⟨_, _, _, _, _, _⟩) (v := ?_) rfl (by kernel_rfl) (by kernel_rfl) (by kernel_rfl) (fun _ _ _ h => h) (Or.inl ⟨by rfl, ?_⟩) (by assumption) ?_
  rotate_left
  · intro w hSw; (try dsimp only at hSw); go_simp; try with_reducible rfl
  try simp only [Act.put, List.setIfInBounds_toArray, List.set_cons_zero, List.set_cons_succ]
  refine wpAnyH_take (i := 10) (oi := ⟨_, _, _, _, _, _⟩) (v := ?_) rfl (by kernel_rfl) (by kernel_rfl) (by kernel_rfl) (fun _ _ _ h => h) (Or.inl ⟨by rfl, ?_⟩) (by assumption) ?_
  rotate_left
  · intro w hSw; (try dsimp only at hSw); go_simp; try with_reducible rfl
  try simp only [Act.put, List.setIfInBounds_toArray, List.set_cons_zero, List.set_cons_succ]
  refine wpAnyH_take (i := 11) (oi := ⟨_, _, _, _, _, _⟩) (v := ?_) rfl (by kernel_rfl) (by kernel_rfl) (by kernel_rfl) (fun _ _ _ h => h) (Or.inl ⟨by rfl, ?_⟩) (by assumption) ?_
  rotate_left
  · intro w hSw; (try dsimp only at hSw); go_simp; try with_reducible rfl
  try simp only [Act.put, List.setIfInBounds_toArray, List.set_cons_zero, List.set_cons_succ]
  refine wpAnyH_take (i := 12) (oi := ⟨_, _, _, _, _, _⟩) (v := ?_) rfl (by kernel_rfl) (by kernel_rfl) (by kernel_rfl) (fun _ _ _ h => h) (Or.inl ⟨by rfl, ?_⟩) (by assumption) ?_
  rotate_left
  · intro w hSw; (try dsimp only at hSw); go_simp; try with_reducible rfl
  try simp only [Act.put, List.setIfInBounds_toArray, List.set_cons_zero, List.set_cons_succ]
  refine wpAnyH_take (i := 13) (oi := ⟨_, _, _, _, _, _⟩) (v := ?_) rfl (by kernel_rfl) (by kernel_rfl) (by kernel_rfl) (fun _ _ _ h => h) (Or.inl ⟨by rfl, ?_⟩) (by assumption) ?_
  rotate_left
  · intro w hSw; (try dsimp only at hSw); go_simp; try with_reducible rfl
  try simp only [Act.put, List.setIfInBounds_toArray, List.set_cons_zero, List.set_cons_succ]
  refine wpAnyH_take (i := 14) (oi := ⟨_, _, _, _, _, _⟩) (v := ?_) rfl (by kernel_rfl) (by kernel_rfl) (by kernel_rfl) (fun _ _ _ h => h) (Or.inl ⟨by rfl, ?_⟩) (by assumption) ?_
  rotate_left
  · intro w hSw; (try dsimp only at hSw); go_simp; try with_reducible rfl
  try simp only [Act.put, List.setIfInBounds_toArray, List.set_cons_zero, List.set_cons_succ]
  refine wpAnyH_take (i := 15) (oi := ⟨_, _, _, _, _, _⟩) (v := ?_) rfl (by kernel_rfl) (by kernel_rfl) (by kernel_rfl) (fun _ _ _ h => h) (Or.inl ⟨by rfl, ?_⟩) (by assumption) ?_
  rotate_left
  · intro w hSw; (try dsimp only at hSw); go_simp; try with_reducible rfl
  try simp only [Act.put, List.setIfInBounds_toArray, List.set_cons_zero, List.set_cons_succ]
  refine wpAnyH_take (i := 16) (oi := ⟨_, _, _, _, _, _⟩) (v := ?_) rfl (by kernel_rfl) (by kernel_rfl) (by kernel_rfl) (fun _ _ _ h => h) (Or.inl ⟨by rfl, ?_⟩) (by assumption) ?_
  rotate_left
  · intro w hSw; (try dsimp only at hSw); go_simp; try with_reducible rfl
  try simp only [Act.put, List.setIfInBounds_toArray, List.set_cons_zero, List.set_cons_succ]
  refine wpAnyH_take (i := 17) (oi := ⟨_, _, _, _, _, _⟩) (v := ?_) rfl (by kernel_rfl) (by kernel_rfl) (by kernel_rfl) (fun _ _ _ h => h) (Or.inl ⟨by rfl, ?_⟩) (by assumption) ?_
  rotate_left
  · intro w hSw; (try dsimp only at hSw); go_simp; try with_reducible rfl
  try simp only [Act.put, List.setIfInBounds_toArray, List.set_cons_zero, List.set_cons_succ]
  refine wpAnyH_take (i := 18) (oi := ⟨_, _, _, _, _, _⟩) (v := ?_) rfl (by kernel_rfl) (by kernel_rfl) (by kernel_rfl) (fun _ _ _ h => h) (Or.inl ⟨by rfl, ?_⟩) (by assumption) ?_
  rotate_left
  · intro w hSw; (try dsimp only at hSw); go_simp; try with_reducible rfl
  try simp only [Act.put, List.setIfInBounds_toArray, List.set_cons_zero, List.set_cons_succ]
  refine wpAnyH_take (i := 19) (oi := ⟨_, _, _, _, _, _⟩) (v := ?_) rfl (by kernel_rfl) (by kernel_rfl) (by kernel_rfl) (fun _ _ _ h => h) (Or.inl ⟨by rfl, ?_⟩) (by assumption) ?_
  rotate_left
  · intro w hSw; (try dsimp only at hSw); go_simp; try with_reducible rfl
  try simp only [Act.put, List.setIfInBounds_toArray, List.set_cons_zero, List.set_cons_succ]
  refine wpAnyH_take (i := 20) (oi := ⟨_, _, _, _, _, _⟩) (v := ?_) rfl (by kernel_rfl) (by kernel_rfl) (by kernel_rfl) (fun _ _ _ h => h) (Or.inl ⟨by rfl, ?_⟩) (by assumption) ?_
  rotate_left
  · intro w hSw; (try dsimp only at hSw); go_simp; try with_reducible rfl
  try simp only [Act.put, List.setIfInBounds_toArray, List.set_cons_zero, List.set_cons_succ]
  refine wpAnyH_take (i := 21) (oi := ⟨_, _, _, _, _, _⟩) (v := ?_) rfl (by kernel_rfl) (by kernel_rfl) (by kernel_rfl) (fun _ _ _ h => h) (Or.inl ⟨by rfl, ?_⟩) (by assumption) ?_
  rotate_left
  · intro w hSw; (try dsimp only at hSw); go_simp; try with_reducible rfl
  try simp only [Act.put, List.setIfInBounds_toArray, List.set_cons_zero, List.set_cons_succ]
  refine wpAnyH_take (i := 22) (oi := ⟨_, _, _, _, _, _⟩) (v := ?_) rfl (by kernel_rfl) (by kernel_rfl) (by kernel_rfl) (fun _ _ _ h => h) (Or.inl ⟨by rfl, ?_⟩) (by assumption) ?_
  rotate_left
  · intro w hSw; (try dsimp only at hSw); go_simp; try with_reducible rfl
  try simp only [Act.put, List.setIfInBounds_toArray, List.set_cons_zero, List.set_cons_succ]
  refine wpAnyH_take (i := 24) (oi := ⟨_, _, _, _, _, _⟩) (v := ?_) rfl (by kernel_rfl) (by kernel_rfl) (by kernel_rfl) (fun _ _ _ h => h) (Or.inl ⟨by rfl, ?_⟩) (by assumption) ?_
  rotate_left
  · intro w hSw; (try dsimp only at hSw); go_simp; try with_reducible rfl
  try simp only [Act.put, List.setIfInBounds_toArray, List.set_cons_zero, List.set_cons_succ]
  refine wpAnyH_ready (rs := [23]) (by kernel_rfl) (by simp) ?_
  refine AllReadyH.cons (o := ⟨_, _, _, _, _, _⟩) rfl (fun K hK => ?_) AllReadyH.nil
  go_simp
  refine hK.out _ _ ?_ (fun hHeld => ?_)
  · first | exact S5'.out _ (Below.drew (Below.refl _ _)) | exact S5'.out _ (Below.drew ((Below.refl _ _).alloc (Nat.le_refl _) _)) | exact S5'.out _ hB6.out
  clear hK K
  try simp only [Act.put, List.setIfInBounds_toArray, List.set_cons_zero, List.set_cons_succ]
  refine wpAnyH_ready (rs := [25]) (by kernel_rfl) (by simp) ?_
  refine AllReadyH.cons (o := ⟨_, _, _, _, _, _⟩) rfl (fun K hK => ?_) AllReadyH.nil
  refine step_append_g (by rfl) (.tmp 70) (.tmp 71) _ (by rfl) W5.heap.size 5 i0 _ 1 1 Tryz.underlying23 hi0 hz0 hz1 hz2 rfl (by decide) _ 1 (u8s [6]) (by rfl) ((litRow W5 6).drew) ⟨gw, 0, none⟩ 4 cw (u8s (leB b 4)) (by rfl) (by simp) (Input.news (hinw5.below (Below.drew ((Below.refl _ _).alloc (Nat.le_refl _) _)) (by omega))) (u8s_one _) (by omega) (by unfold maxLen; omega) (by omega) (by simp) (W5.heap.size + 1) (by simp) ?_; intro gg cap w6 hown6 hgrow hat hlt; have hcv6 := conv_row (bs := 6 :: leB b 4) hown6 (by omega); have hB6 := Lib.hid ((Below.drew ((Below.refl W5.heap.size W5).alloc (Nat.le_refl _) _)).grown hgrow (by simp) (fun x hx => by simp [Value.ownBlock] at hx; omega)); clear hown6 hgrow hat hlt
  refine hK.out _ _ ?_ (fun hHeld => ?_)
  · first | exact S5'.out _ (Below.drew (Below.refl _ _)) | exact S5'.out _ (Below.drew ((Below.refl _ _).alloc (Nat.le_refl _) _)) | exact S5'.out _ hB6.out
  clear hK K
  try simp only [Act.put, List.setIfInBounds_toArray, List.set_cons_zero, List.set_cons_succ]
  refine wpAnyH_ready (rs := [26]) (by kernel_rfl) (by simp) ?_
  refine AllReadyH.cons (o := ⟨_, _, _, _, _, _⟩) rfl (fun K hK => ?_) AllReadyH.nil
  go_simp
  refine hK.out _ _ ?_ (fun hHeld => ?_)
  · first | exact S5'.out _ (Below.drew (Below.refl _ _)) | exact S5'.out _ (Below.drew ((Below.refl _ _).alloc (Nat.le_refl _) _)) | exact S5'.out _ hB6.out
  clear hK K
  try simp only [Act.put, List.setIfInBounds_toArray, List.set_cons_zero, List.set_cons_succ]
  refine wpAnyH_take (i := 27) (oi := ⟨_, _, _, _, _, _⟩) (v := ?_) rfl (by kernel_rfl) (by kernel_rfl) (by kernel_rfl) (fun _ _ _ h => h) (Or.inl ⟨by rfl, ?_⟩) (by assumption) ?_
  rotate_left
  · intro w hSw; (try dsimp only at hSw); go_simp; try with_reducible rfl
  try simp only [Act.put, List.setIfInBounds_toArray, List.set_cons_zero, List.set_cons_succ]
  refine wpAnyH_take (i := 28) (oi := ⟨_, _, _, _, _, _⟩) (v := ?_) rfl (by kernel_rfl) (by kernel_rfl) (by kernel_rfl) (fun _ _ _ h => h) (Or.inl ⟨by rfl, ?_⟩) (by assumption) ?_
  rotate_left
  · intro w hSw; (try dsimp only at hSw); go_simp; try with_reducible rfl
  try simp only [Act.put, List.setIfInBounds_toArray, List.set_cons_zero, List.set_cons_succ]
  refine wpAnyH_take (i := 29) (oi := ⟨_, _, _, _, _, _⟩) (v := ?_) rfl (by kernel_rfl) (by kernel_rfl) (by kernel_rfl) (fun _ _ _ h => h) (Or.inl ⟨by rfl, ?_⟩) (by assumption) ?_
  rotate_left
  · intro w hSw; (try dsimp only at hSw); go_simp; try with_reducible rfl
  try simp only [Act.put, List.setIfInBounds_toArray, List.set_cons_zero, List.set_cons_succ]
  refine wpAnyH_take (i := 30) (oi := ⟨_, _, _, _, _, _⟩) (v := ?_) rfl (by kernel_rfl) (by kernel_rfl) (by kernel_rfl) (fun _ _ _ h => h) (Or.inl ⟨by rfl, ?_⟩) (by assumption) ?_
  rotate_left
  · intro w hSw; (try dsimp only at hSw); go_simp; try with_reducible rfl
  try simp only [Act.put, List.setIfInBounds_toArray, List.set_cons_zero, List.set_cons_succ]
  refine wpAnyH_take (i := 31) (oi := ⟨_, _, _, _, _, _⟩) (v := ?_) rfl (by kernel_rfl) (by kernel_rfl) (by kernel_rfl) (fun _ _ _ h => h) (Or.inl ⟨by rfl, ?_⟩) (by assumption) ?_
  rotate_left
  · intro w hSw; (try dsimp only at hSw); go_simp; try with_reducible rfl
  try simp only [Act.put, List.setIfInBounds_toArray, List.set_cons_zero, List.set_cons_succ]
  refine wpAnyH_take (i := 32) (oi := ⟨_, _, _, _, _, _⟩) (v := ?_) rfl (by kernel_rfl) (by kernel_rfl) (by kernel_rfl) (fun _ _ _ h => h) (Or.inl ⟨by rfl, ?_⟩) (by assumption) ?_
  rotate_left
  · intro w hSw; (try dsimp only at hSw); go_simp; try with_reducible rfl
  try simp only [Act.put, List.setIfInBounds_toArray, List.set_cons_zero, List.set_cons_succ]
  refine wpAnyH_take (i := 33) (oi := ⟨_, _, _, _, _, _⟩) (v := ?_) rfl (by kernel_rfl) (by kernel_rfl) (by kernel_rfl) (fun _ _ _ h => h) (Or.inl ⟨by rfl, ?_⟩) (by assumption) ?_
  rotate_left
  · intro w hSw; (try dsimp only at hSw); go_simp; try with_reducible rfl
  try simp only [Act.put, List.setIfInBounds_toArray, List.set_cons_zero, List.set_cons_succ]
  refine wpAnyH_take (i := 34) (oi := ⟨_, _, _, _, _, _⟩) (v := ?_) rfl (by kernel_rfl) (by kernel_rfl) (by kernel_rfl) (fun _ _ _ h => h) (Or.inl ⟨by rfl, ?_⟩) (by assumption) ?_
  rotate_left
  · intro w hSw; (try dsimp only at hSw); go_simp; try with_reducible rfl
  try simp only [Act.put, List.setIfInBounds_toArray, List.set_cons_zero, List.set_cons_succ]
  refine wpAnyH_take (i := 35) (oi := ⟨_, _, _, _, _, _⟩) (v := ?_) rfl (by kernel_rfl) (by kernel_rfl) (by kernel_rfl) (fun _ _ _ h => h) (Or.inl ⟨by rfl, ?_⟩) (by assumption) ?_
  rotate_left
  · intro w hSw; (try dsimp only at hSw); go_simp; try with_reducible rfl
  try simp only [Act.put, List.setIfInBounds_toArray, List.set_cons_zero, List.set_cons_succ]
  refine wpAnyH_take (i := 36) (oi := ⟨_, _, _, _, _, _⟩) (v := ?_) rfl (by kernel_rfl) (by kernel_rfl) (by kernel_rfl) (fun _ _ _ h => h) (Or.inl ⟨by rfl, ?_⟩) (by assumption) ?_
  rotate_left
  · intro w hSw; (try dsimp only at hSw); go_simp; try with_reducible rfl
  try simp only [Act.put, List.setIfInBounds_toArray, List.set_cons_zero, List.set_cons_succ]
  refine wpAnyH_take (i := 37) (oi := ⟨_, _, _, _, _, _⟩) (v := ?_) rfl (by kernel_rfl) (by kernel_rfl) (by kernel_rfl) (fun _ _ _ h => h) (Or.inl ⟨by rfl, ?_⟩) (by assumption) ?_
  rotate_left
  · intro w hSw; (try dsimp only at hSw); go_simp; try with_reducible rfl
  try simp only [Act.put, List.setIfInBounds_toArray, List.set_cons_zero, List.set_cons_succ]
  refine wpAnyH_take (i := 38) (oi := ⟨_, _, _, _, _, _⟩) (v := ?_) rfl (by kernel_rfl) (by kernel_rfl) (by kernel_rfl) (fun _ _ _ h => h) (Or.inl ⟨by rfl, ?_⟩) (by assumption) ?_
  rotate_left
  · intro w hSw; (try dsimp only at hSw); go_simp; try with_reducible rfl
  try simp only [Act.put, List.setIfInBounds_toArray, List.set_cons_zero, List.set_cons_succ]
  refine wpAnyH_take (i := 39) (oi := ⟨_, _, _, _, _, _⟩) (v := ?_) rfl (by kernel_rfl) (by kernel_rfl) (by kernel_rfl) (fun _ _ _ h => h) (Or.inl ⟨by rfl, ?_⟩) (by assumption) ?_
  rotate_left
  · intro w hSw; (try dsimp only at hSw); go_simp; try with_reducible rfl
  try simp only [Act.put, List.setIfInBounds_toArray, List.set_cons_zero, List.set_cons_succ]
  refine wpAnyH_done (by kernel_rfl) ?_ _
  refine NoPanic.normal ?_
  clear hHeld hcv6
  have hz6 := hB6.out.size
  have hin6 := hinw5.below hB6.out (by omega)
  have hgw6 : gw < w6.heap.size := by omega
  have q76 := (hB6.out.block _ z5).trans q7
  have hbw6 := hbw5.trans (hB6.out.mono hbw5.size)
  have z36 : w3.heap.size < w6.heap.size := by omega
  clear S5' q6 q7 hin5 hinw5 hbw5 hB6 hgl3 hgw3 hW5
  go_wp2_with fail
  refine (roReal w6 y b hsh.out gw 0 cw hin6 hgw6).mono ?_
  rintro e w8 ⟨rfl, hb8⟩
  have q8 := (hb8.block _ z36).trans q76
  obtain ⟨W9, hW9⟩ : ∃ W, W = w8.setRow w3.heap.size (fltVal y) := ⟨_, rfl⟩
  have q9 : W9.heap[w3.heap.size]? = some (.cells (fltVal y) 34 (0, 0)) := by rw [hW9]; exact setRow_heap _ _ _ _ _ _ q8
  have b9 : Below w.heap.size w W9 := by
    rw [hW9]
    exact below_setRow (hbw6.trans (hb8.mono hbw6.size)) zw3 _
  replace hW9 := Lib.hid hW9
  clear hb8 hin6
  go_wp2_with (refine store_valW rfl (.tmp 10) (.tmp 91) rfl _ rfl (fltVal y) rfl (fltVal y) q8 rfl rfl (plain1 3 false 0 y none 0 0) W9 hW9.out ?_)
  have z9 := sizeOf_blk q9
  refine (roNReal _ W9.heap.size 0 8 (allOnes (by decide) (blk_new W9 _)) (by simp)).mono ?_
  rintro e w10 ⟨rfl, hb10⟩
  have q10 : w10.heap[w3.heap.size]? = some (.cells (fltVal y) 34 (0, 0)) := (hb10.block _ (by simp; omega)).trans (blk_alloc q9 _)
  have b10 : Below w.heap.size w w10 := (b9.alloc (by omega) _).trans (hb10.mono (by simp; omega))
  have qa : (w10.alloc (.cells noVal 34)).heap[w10.heap.size]? = some (.cells noVal 34 (0, 0)) := blk_new _ _
  obtain ⟨W11, hW11⟩ : ∃ W, W = (w10.alloc (.cells noVal 34)).setRow w10.heap.size noVal := ⟨_, rfl⟩
  have qb : W11.heap[w10.heap.size]? = some (.cells noVal 34 (0, 0)) := by rw [hW11]; exact setRow_heap _ _ _ _ _ _ qa
  have b11 : Below w10.heap.size w10 W11 := by rw [hW11]; exact below_setRow ((Below.refl _ w10).alloc (Nat.le_refl _) _) (Nat.le_refl _) _
  have qc := (b11.block _ (sizeOf_blk q10)).trans q10
  replace hW11 := Lib.hid hW11
  have k0 : W11.cell? ⟨w3.heap.size, 0, none⟩ = some (.int .i64 3) := cellOf qc 0
  have k1 : W11.cell? ⟨w3.heap.size, 3, none⟩ = some (.float .f64 y) := cellOf qc 3
  have k2 : W11.cell? ⟨w10.heap.size, 0, none⟩ = some (.int .i64 0) := cellOf qb 0
  have bE := b10.trans (b11.mono (by have := b10.size; omega))
  clear b10 b11 hb10 q10 b9 qb qc
  go_wp2_with (refine store_valW rfl (.tmp 13) (.tmp 101) rfl _ rfl noVal rfl noVal qa rfl rfl (plain1 0 false 0 0 none 0 0) W11 hW11.out ?_)
  go_ret
  exact ⟨by simp, bE⟩

theorem lawFloats (w : World) (s : Bool) (x : Nat) (hx : x < 2 ^ 64) :
    Calls Tryz.prog 6 #[.bool s, .float .f64 x] w fun e w' => e = .returned (.bool true) ∧ Below w.heap.size w w' := by
  cases s
  · exact lawFloatsL w x hx
  · exact lawFloatsS w x hx
end Go.Proofs.YtnnckokoaenolaaGreatDoor
