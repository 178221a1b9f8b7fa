/- The law of integers: its walk. -/
import Derived.Test.YtnnckokoaenolaaGreatDoorIntsVa
import Derived.Deep.RegionHeld3
import Derived.BigRegion
import Derived.Deep.AppendLies
set_option linter.unusedVariables false
set_option linter.unusedSimpArgs false
namespace Go.Proofs.YtnnckokoaenolaaGreatDoor
open Go.RowKit

theorem leB_take (n : Int) (m k : Nat) (h : k ≤ m) : (leB n m).take k = leB n k := by
  induction m generalizing n k with
  | zero => obtain rfl : k = 0 := by omega
            rfl
  | succ m ih =>
    cases k with
    | zero => rfl
    | succ k => simp [leB, ih (n / 256) k (by omega)]
theorem IntCode.bd {c : Int} {k : Nat} {i : Int} (h : IntCode c k i) : 1 ≤ c ∧ c ≤ 4 ∧ 1 ≤ k ∧ k ≤ 8 := by
  rcases h with ⟨rfl, rfl, _, _⟩ | ⟨rfl, rfl, _, _⟩ | ⟨rfl, rfl, _, _⟩ | ⟨rfl, rfl, _, _⟩ <;> decide

/-- step_append_lies at a guarded operation that runs. -/
theorem step_append_g {P : Program} {w : World} {ops : Array Oper} {o : Oper} {a : Act} {K : Act → World → Prop} {Q : Exit → Act → World → Prop} {E : Prop} (hw : Region.wanted o (yielded ops a.tmps) = true) (s x : Operand) (t : TypeId)
    (ho : o.op = .call { callee := .builtin .append, args := #[s, x], argTypes := #[t, t] })
    (base : Nat) (e : TypeId) (i : TypeInfo) (z : Value) (size bytes : Nat) (ht : P.underlying t = some (.slice e)) (hi : P.info? e = some i) (hz : i.zero = some z)
    (hsize : i.size = size) (hby : i.bytes = bytes) (hzs : z.cells.size = size) (hsz : 0 < size)
    (v : Value) (n : Nat) (xs : List Value) (hs : a.eval s = v) (hown : w.ownsRow base e size v n xs)
    (ad : Addr) (m c : Nat) (news : List Value) (hx : a.eval x = .slice (some ad) m c) (hl : news.length = m * size) (hnews : ∀ j u, news[j]? = some u → w.cell? (ad.add j) = some u) (h1 : ∀ u ∈ news, u.oneCell' = true)
    (hm : 0 < m) (h63 : n + m ≤ maxLen) (hbytes : (n + m) * bytes ≤ 140737488355328) (hbase : base ≤ w.heap.size) (H : Nat) (hH : w.heap.size = H)
    (h : ∀ g cap w', w'.ownsRow base e size (.slice (some ⟨g, 0, none⟩) (n + m) cap) (n + m) (xs ++ news) → w.grownBy w' v.ownBlock → (v.ownBlock = some g ∨ g = H) → g < w'.heap.size → K (a.put o.dst (.slice (some ⟨g, 0, none⟩) (n + m) cap)) w') :
    if Region.wanted o (yielded ops a.tmps) = true then Oper.wp P o a w K Q else E := by
  rw [if_pos hw]
  exact wp_append_lies w s x t ho base e i z size bytes ht hi hz hsize hby hzs hsz v n xs hs hown ad m c news hx hl hnews h1 hm h63 hbytes hbase H hH h

theorem Input.news {w : World} {rb n c : Nat} {bs : List Int} (h : Input w rb 0 n c bs) : ∀ j u, (u8s bs)[j]? = some u → w.cell? ((⟨rb, 0, none⟩ : Addr).add j) = some u := by
  intro j u hj
  obtain ⟨hj', rfl⟩ := List.getElem?_eq_some_iff.1 hj
  simp only [List.length_map] at hj'
  simp only [List.getElem_map]
  rw [Addr.add_lit]
  exact h.cell j hj'
theorem u8s_one (bs : List Int) : ∀ u ∈ u8s bs, u.oneCell' = true := by
  intro u hu
  obtain ⟨_, _, rfl⟩ := List.mem_map.1 hu
  rfl
/-- A row of one's own, as a string. -/
theorem conv_row {w : World} {base g n c : Nat} {bs : List Int} (h : w.ownsRow base 5 1 (.slice (some ⟨g, 0, none⟩) n c) n (u8s bs)) (hn : 0 < n) :
    (convert 23 9 (.slice (some ⟨g, 0, none⟩) n c)).run Tryz.prog w = .ok (.string (strOfNums bs)) w := by
  obtain ⟨g', c', he, _, _, hin⟩ := Input.of_row h hn
  simp only [Value.slice.injEq, Option.some.injEq, Addr.mk.injEq, and_true, true_and] at he
  obtain ⟨rfl, rfl⟩ := he
  exact conv_input hin
theorem litRow (w : World) (x : Int) : (w.alloc (.cells #[.int .u8 x] 5)).ownsRow w.heap.size 5 1 (.slice (some ⟨w.heap.size, 0, none⟩) 1 1) 1 (u8s [x]) :=
  World.ownsRow_lit w #[.int .u8 x] 1 (Nat.le_refl _) (by decide) rfl

theorem litIn (w : World) (x : Int) : Input (w.alloc (.cells #[.int .u8 x] 5)) w.heap.size 0 1 1 [x] := by
  refine ⟨rfl, by decide, by decide, fun j hj => ?_⟩
  obtain rfl : j = 0 := by simpa using hj
  rw [cellOf (blk_new _ _)]
  rfl

set_option maxRecDepth 100000 in
set_option maxHeartbeats 2000000 in
theorem lawInts (w : World) (a n : Int) (a0 : 0 ≤ a) (a1 : a ≤ 255) (n0 : -9223372036854775808 ≤ n) (n1 : n ≤ 9223372036854775807) :
    Calls Tryz.prog 5 #[.int .u8 a, .int .i64 n] w fun e w' => e = .returned (.bool true) ∧ Below w.heap.size w w' := by
  have hV := Lib.hid (vaInteger_any w a n a0 a1 n0 n1)
  clear a0 a1 n0 n1
  go_enter Tryz.func5, Tryz.ntmps5
  go_wp2_with fail
  refine hV.out.mono ?_
  rintro e w1 ⟨c, k, i, hic, rfl, rfl⟩
  clear hV
  obtain ⟨hc1, hc2, hk1, hk2⟩ := hic.bd
  have hic' := Lib.hid hic; clear hic
  go_wp2_with fail
  refine (vaWidth_any w c k i hic'.out).mono ?_
  rintro e w1 ⟨rfl, rfl⟩
  obtain ⟨v, hwr, hv, hle⟩ := leNum64 i
  have hle' : leB v k = leB i k := by rw [← leB_take v 8 k hk2, hle, leB_take i 8 k hk2]
  have hle2 := Lib.hid hle'; clear hle hle'
  have hV := Lib.hid (vaLow_any w v hv k hk2)
  clear hv
  go_wp2_with fail
  refine hV.out.mono ?_
  rintro e w1 ⟨vl, rfl, how, hb1⟩
  clear hwr hV
  rw [hle2.out] at how
  clear hle2
  obtain ⟨gw, cw, rfl, hgw, hgwl, hinw⟩ := Input.of_row how (by omega)
  go_wp2_with fail
  refine (fbInt w1 c k i hic'.out).mono ?_
  rintro e w2 ⟨vo, rfl, ho, hb2⟩
  have hbw2 := hb1.trans (hb2.mono hb1.size)
  obtain ⟨g, co, rfl, hg, hgl, hin⟩ := Input.of_row ho (by omega)
  clear ho
  go_wp2_with fail
  refine (foInt w2 c k i hic'.out g 0 co hin hgl).mono ?_
  rintro e w3 ⟨rfl, hb3⟩
  have hbw3 := hbw2.trans (hb3.mono hbw2.size)
  have hin3 := hin.below hb3 hgl
  have hgl3 : g < w3.heap.size := Nat.lt_of_lt_of_le hgl hb3.size
  have hinw3 := (hinw.below hb2 hgwl).below hb3 (Nat.lt_of_lt_of_le hgwl hb2.size)
  have hgw3 : gw < w3.heap.size := Nat.lt_of_lt_of_le (Nat.lt_of_lt_of_le hgwl hb2.size) hb3.size
  have q6 : (w3.alloc (.cells noVal 34)).heap[w3.heap.size]? = some (.cells noVal 34 (0, 0)) := blk_new _ _
  obtain ⟨W5, hW5⟩ : ∃ W, W = (w3.alloc (.cells noVal 34)).setRow w3.heap.size (intVal i) := ⟨_, rfl⟩
  have q7 : W5.heap[w3.heap.size]? = some (.cells (intVal i) 34 (0, 0)) := by rw [hW5]; exact setRow_heap _ _ _ _ _ _ q6
  have b5 : Below w3.heap.size w3 W5 := by rw [hW5]; exact below_setRow ((Below.refl _ w3).alloc (Nat.le_refl _) _) (Nat.le_refl _) _
  replace hW5 := Lib.hid hW5
  have hin5 := hin3.below b5 hgl3
  have hinw5 := hinw3.below b5 hgw3
  have hbw5 := hbw3.trans (b5.mono hbw3.size)
  have hbw3 := hbw3.size
  have z5 := sizeOf_blk q7
  have z5' := b5.size
  clear how hb1 hb2 hb3 hgw hgwl hinw hin hbw2 hin3 hinw3 hg hgl b5
  go_wp2_with (refine store_valW rfl (.tmp 11) (.tmp 41) rfl _ rfl (intVal i) rfl noVal q6 rfl rfl (plain1 2 false i 0 none 0 0) W5 hW5.out ?_)
  have S5 : ∀ w', Below W5.heap.size W5 w' → (convert 23 9 (.slice (some ⟨g, 0, none⟩) (k + 1) co)).run Tryz.prog w' = .ok (.string (strOfNums (c :: leB i k))) w' ∧
      w'.cell? ⟨w3.heap.size, 0, none⟩ = some (.int .i64 2) ∧ w'.cell? ⟨w3.heap.size, 2, none⟩ = some (.int .i64 i) := by
    intro w' hb
    have h7 := (hb.block _ z5).trans q7
    exact ⟨conv_input (hin5.below hb (by omega)), cellOf h7 0, cellOf h7 2⟩
  have S5' := Lib.hid S5; clear S5
  obtain ⟨i0, hi0, hz0, hz1, hz2⟩ := info_parts Tryz.info5
  have e1 : IntKind.i64.wrap ((k : Int) + 1) = (k : Int) + 1 := by simp [IntKind.wrap, IntKind.bits, IntKind.signed]; omega
  have e2 : IntKind.u8.wrap c = c := by simp [IntKind.wrap, IntKind.bits, IntKind.signed]; omega
  -- the region
  refine wp_region_noPanic ?_
  refine wp_region_held_drew (S := fun w' => (convert 23 9 (.slice (some ⟨g, 0, none⟩) (k + 1) co)).run Tryz.prog w' = .ok (.string (strOfNums (c :: leB i k))) w' ∧ w'.cell? ⟨w3.heap.size, 0, none⟩ = some (.int .i64 2) ∧ w'.cell? ⟨w3.heap.size, 2, none⟩ = some (.int .i64 i)) (by kernel_rfl) ?_ (fun hHeld => ?_)
  · first | exact S5'.out _ (Below.drew (Below.refl _ _)) | exact S5'.out _ (Below.drew ((Below.refl _ _).alloc (Nat.le_refl _) _)) | exact S5'.out _ hB6.out
  refine wpAnyH_take (i := 0) (oi := ⟨_, _, _, _, _, _⟩) (v := ?_) rfl (by kernel_rfl) (by kernel_rfl) (by kernel_rfl) (fun _ _ _ h => h) (Or.inl ⟨by rfl, ?_⟩) (by assumption) ?_
  rotate_left
  · intro w hSw; (try dsimp only at hSw); go_simp; try with_reducible rfl
  try simp only [Act.put, List.setIfInBounds_toArray, List.set_cons_zero, List.set_cons_succ]
  refine wpAnyH_take (i := 1) (oi := ⟨_, _, _, _, _, _⟩) (v := ?_) rfl (by kernel_rfl) (by kernel_rfl) (by kernel_rfl) (fun _ _ _ h => h) (Or.inl ⟨by rfl, ?_⟩) (by assumption) ?_
  rotate_left
  · intro w hSw; (try dsimp only at hSw); go_simp; try with_reducible rfl
  try simp only [Act.put, List.setIfInBounds_toArray, List.set_cons_zero, List.set_cons_succ]
  refine wpAnyH_take (i := 2) (oi := ⟨_, _, _, _, _, _⟩) (v := ?_) rfl (by kernel_rfl) (by kernel_rfl) (by kernel_rfl) (fun _ _ _ h => h) (Or.inl ⟨by rfl, ?_⟩) (by assumption) ?_
  rotate_left
  · intro w hSw; (try dsimp only at hSw); go_simp; try with_reducible rfl
  try simp only [Act.put, List.setIfInBounds_toArray, List.set_cons_zero, List.set_cons_succ]
  refine wpAnyH_take (i := 3) (oi := ⟨_, _, _, _, _, _⟩) (v := ?_) rfl (by kernel_rfl) (by kernel_rfl) (by kernel_rfl) (fun _ _ _ h => h) (Or.inl ⟨by rfl, ?_⟩) (by assumption) ?_
  rotate_left
  · intro w hSw; (try dsimp only at hSw); go_simp; try with_reducible rfl
  try simp only [Act.put, List.setIfInBounds_toArray, List.set_cons_zero, List.set_cons_succ]
  refine wpAnyH_take (i := 4) (oi := ⟨_, _, _, _, _, _⟩) (v := ?_) rfl (by kernel_rfl) (by kernel_rfl) (by kernel_rfl) (fun _ _ _ h => h) (Or.inl ⟨by rfl, ?_⟩) (by assumption) ?_
  rotate_left
  · intro w hSw; (try dsimp only at hSw); go_simp; try with_reducible rfl
  try simp only [Act.put, List.setIfInBounds_toArray, List.set_cons_zero, List.set_cons_succ]
  refine wpAnyH_take (i := 5) (oi := ⟨_, _, _, _, _, _⟩) (v := ?_) rfl (by kernel_rfl) (by kernel_rfl) (by kernel_rfl) (fun _ _ _ h => h) (Or.inl ⟨by rfl, ?_⟩) (by assumption) ?_
  rotate_left
  · intro w hSw; (try dsimp only at hSw); go_simp; try with_reducible rfl
  try simp only [Act.put, List.setIfInBounds_toArray, List.set_cons_zero, List.set_cons_succ]
  refine wpAnyH_take (i := 6) (oi := ⟨_, _, _, _, _, _⟩) (v := ?_) rfl (by kernel_rfl) (by kernel_rfl) (by kernel_rfl) (fun _ _ _ h => h) (Or.inl ⟨by rfl, ?_⟩) (by assumption) ?_
  rotate_left
  · intro w hSw; (try dsimp only at hSw); go_simp; try with_reducible rfl
  try simp only [Act.put, List.setIfInBounds_toArray, List.set_cons_zero, List.set_cons_succ]
  refine wpAnyH_take (i := 7) (oi := ⟨_, _, _, _, _, _⟩) (v := ?_) rfl (by kernel_rfl) (by kernel_rfl) (by kernel_rfl) (fun _ _ _ h => h) (Or.inl ⟨by rfl, ?_⟩) (by assumption) ?_
  rotate_left
  · intro w hSw; (try dsimp only at hSw); go_simp; try with_reducible rfl
  try simp only [Act.put, List.setIfInBounds_toArray, List.set_cons_zero, List.set_cons_succ]
  refine wpAnyH_take (i := 8) (oi := ⟨_, _, _, _, _, _⟩) (v := ?_) rfl (by kernel_rfl) (by kernel_rfl) (by kernel_rfl) (fun _ _ _ h => h) (Or.inl ⟨by rfl, ?_⟩) (by assumption) ?_
  rotate_left
  · intro w hSw; (try dsimp only at hSw); go_simp; try with_reducible rfl
  try simp only [Act.put, List.setIfInBounds_toArray, List.set_cons_zero, List.set_cons_succ]
  refine wpAnyH_take (i := 9) (oi := ⟨_, _, _, _, _, _⟩) (v := ?_) rfl (by kernel_rfl) (by kernel_rfl) (by kernel_rfl) (fun _ _ _ h => h) (Or.inl ⟨by rfl, ?_⟩) (by assumption) ?_
  rotate_left
  · intro w hSw; (try dsimp only at hSw); go_simp; try with_reducible rfl
  try simp only [Act.put, List.setIfInBounds_toArray, List.set_cons_zero, List.set_cons_succ]
  refine wpAnyH_take (i := 10) (oi := ⟨_, _, _, _, _, _⟩) (v := ?_) rfl (by kernel_rfl) (by kernel_rfl) (by kernel_rfl) (fun _ _ _ h => h) (Or.inl ⟨by rfl, ?_⟩) (by assumption) ?_
  rotate_left
  · intro w hSw; (try dsimp only at hSw); go_simp; try with_reducible rfl
  try simp only [Act.put, List.setIfInBounds_toArray, List.set_cons_zero, List.set_cons_succ]
  refine wpAnyH_take (i := 11) (oi := ⟨_, _, _, _, _, _⟩) (v := ?_) rfl (by kernel_rfl) (by kernel_rfl) (by kernel_rfl) (fun _ _ _ h => h) (Or.inl ⟨by rfl, ?_⟩) (by assumption) ?_
  rotate_left
  · intro w hSw; (try dsimp only at hSw); go_simp; try with_reducible rfl
  try simp only [Act.put, List.setIfInBounds_toArray, List.set_cons_zero, List.set_cons_succ]
  refine wpAnyH_take (i := 12) (oi := ⟨_, _, _, _, _, _⟩) (v := ?_) rfl (by kernel_rfl) (by kernel_rfl) (by kernel_rfl) (fun _ _ _ h => h) (Or.inl ⟨by rfl, ?_⟩) (by assumption) ?_
  rotate_left
  · intro w hSw; (try dsimp only at hSw); go_simp; try with_reducible rfl
  try simp only [Act.put, List.setIfInBounds_toArray, List.set_cons_zero, List.set_cons_succ]
  refine wpAnyH_take (i := 13) (oi := ⟨_, _, _, _, _, _⟩) (v := ?_) rfl (by kernel_rfl) (by kernel_rfl) (by kernel_rfl) (fun _ _ _ h => h) (Or.inl ⟨by rfl, ?_⟩) (by assumption) ?_
  rotate_left
  · intro w hSw; (try dsimp only at hSw); go_simp; try with_reducible rfl
  try simp only [Act.put, List.setIfInBounds_toArray, List.set_cons_zero, List.set_cons_succ]
  refine wpAnyH_take (i := 14) (oi := ⟨_, _, _, _, _, _⟩) (v := ?_) rfl (by kernel_rfl) (by kernel_rfl) (by kernel_rfl) (fun _ _ _ h => h) (Or.inl ⟨by rfl, ?_⟩) (by assumption) ?_
  rotate_left
  · intro w hSw; (try dsimp only at hSw); go_simp; try with_reducible rfl
  try simp only [Act.put, List.setIfInBounds_toArray, List.set_cons_zero, List.set_cons_succ]
  refine wpAnyH_take (i := 15) (oi := ⟨_, _, _, _, _, _⟩) (v := ?_) rfl (by kernel_rfl) (by kernel_rfl) (by kernel_rfl) (fun _ _ _ h => h) (Or.inl ⟨by rfl, ?_⟩) (by assumption) ?_
  rotate_left
  · intro w hSw; (try dsimp only at hSw); go_simp; try with_reducible rfl
  try simp only [Act.put, List.setIfInBounds_toArray, List.set_cons_zero, List.set_cons_succ]
  refine wpAnyH_take (i := 16) (oi := ⟨_, _, _, _, _, _⟩) (v := ?_) rfl (by kernel_rfl) (by kernel_rfl) (by kernel_rfl) (fun _ _ _ h => h) (Or.inl ⟨by rfl, ?_⟩) (by assumption) ?_
  rotate_left
  · intro w hSw; (try dsimp only at hSw); go_simp; try with_reducible rfl
  try simp only [Act.put, List.setIfInBounds_toArray, List.set_cons_zero, List.set_cons_succ]
  refine wpAnyH_take (i := 17) (oi := ⟨_, _, _, _, _, _⟩) (v := ?_) rfl (by kernel_rfl) (by kernel_rfl) (by kernel_rfl) (fun _ _ _ h => h) (Or.inl ⟨by rfl, ?_⟩) (by assumption) ?_
  rotate_left
  · intro w hSw; (try dsimp only at hSw); go_simp; try with_reducible rfl
  try simp only [Act.put, List.setIfInBounds_toArray, List.set_cons_zero, List.set_cons_succ]
  refine wpAnyH_take (i := 18) (oi := ⟨_, _, _, _, _, _⟩) (v := ?_) rfl (by kernel_rfl) (by kernel_rfl) (by kernel_rfl) (fun _ _ _ h => h) (Or.inl ⟨by rfl, ?_⟩) (by assumption) ?_
  rotate_left
  · intro w hSw; (try dsimp only at hSw); go_simp; try with_reducible rfl
  try simp only [Act.put, List.setIfInBounds_toArray, List.set_cons_zero, List.set_cons_succ]
  refine wpAnyH_take (i := 19) (oi := ⟨_, _, _, _, _, _⟩) (v := ?_) rfl (by kernel_rfl) (by kernel_rfl) (by kernel_rfl) (fun _ _ _ h => h) (Or.inl ⟨by rfl, ?_⟩) (by assumption) ?_
  rotate_left
  · intro w hSw; (try dsimp only at hSw); go_simp; try with_reducible rfl
  try simp only [Act.put, List.setIfInBounds_toArray, List.set_cons_zero, List.set_cons_succ]
  refine wpAnyH_take (i := 20) (oi := ⟨_, _, _, _, _, _⟩) (v := ?_) rfl (by kernel_rfl) (by kernel_rfl) (by kernel_rfl) (fun _ _ _ h => h) (Or.inl ⟨by rfl, ?_⟩) (by assumption) ?_
  rotate_left
  · intro w hSw; (try dsimp only at hSw); go_simp; try with_reducible rfl
  try simp only [Act.put, List.setIfInBounds_toArray, List.set_cons_zero, List.set_cons_succ]
  refine wpAnyH_take (i := 21) (oi := ⟨_, _, _, _, _, _⟩) (v := ?_) rfl (by kernel_rfl) (by kernel_rfl) (by kernel_rfl) (fun _ _ _ h => h) (Or.inl ⟨by rfl, ?_⟩) (by assumption) ?_
  rotate_left
  · intro w hSw; (try dsimp only at hSw); go_simp; try with_reducible rfl
  try simp only [Act.put, List.setIfInBounds_toArray, List.set_cons_zero, List.set_cons_succ]
  refine wpAnyH_take (i := 23) (oi := ⟨_, _, _, _, _, _⟩) (v := ?_) rfl (by kernel_rfl) (by kernel_rfl) (by kernel_rfl) (fun _ _ _ h => h) (Or.inl ⟨by rfl, ?_⟩) (by assumption) ?_
  rotate_left
  · intro w hSw; (try dsimp only at hSw); go_simp; try with_reducible rfl
  try simp only [Act.put, List.setIfInBounds_toArray, List.set_cons_zero, List.set_cons_succ]
  refine wpAnyH_ready (rs := [22]) (by kernel_rfl) (by simp) ?_
  refine AllReadyH.cons (o := ⟨_, _, _, _, _, _⟩) rfl (fun K hK => ?_) AllReadyH.nil
  go_simp
  refine hK.out _ _ ?_ (fun hHeld => ?_)
  · first | exact S5'.out _ (Below.drew (Below.refl _ _)) | exact S5'.out _ (Below.drew ((Below.refl _ _).alloc (Nat.le_refl _) _)) | exact S5'.out _ hB6.out
  clear hK K
  try simp only [Act.put, List.setIfInBounds_toArray, List.set_cons_zero, List.set_cons_succ]
  refine wpAnyH_ready (rs := [24]) (by kernel_rfl) (by simp) ?_
  refine AllReadyH.cons (o := ⟨_, _, _, _, _, _⟩) rfl (fun K hK => ?_) AllReadyH.nil
  refine step_append_g (by rfl) (.tmp 66) (.tmp 67) _ (by rfl) W5.heap.size 5 i0 _ 1 1 Tryz.underlying23 hi0 hz0 hz1 hz2 rfl (by decide) _ 1 (u8s [c]) (by rfl) ((litRow W5 c).drew)
    ⟨gw, 0, none⟩ k cw (u8s (leB i k)) (by rfl) (by simp) (Input.news (hinw5.below (Below.drew ((Below.refl _ _).alloc (Nat.le_refl _) _)) (by omega))) (u8s_one _)
    (by omega) (by unfold maxLen; omega) (by omega) (by simp) (W5.heap.size + 1) (by simp) ?_
  intro gg cap w6 hown6 hgrow hat hlt
  have hcv6 := conv_row (bs := c :: leB i k) hown6 (by omega)
  have hB6 := Lib.hid ((Below.drew ((Below.refl W5.heap.size W5).alloc (Nat.le_refl _) _)).grown hgrow (by simp) (fun x hx => by simp [Value.ownBlock] at hx; omega))
  clear hown6 hgrow hat hlt
  refine hK.out _ _ ?_ (fun hHeld => ?_)
  · first | exact S5'.out _ (Below.drew (Below.refl _ _)) | exact S5'.out _ (Below.drew ((Below.refl _ _).alloc (Nat.le_refl _) _)) | exact S5'.out _ hB6.out
  clear hK K
  try simp only [Act.put, List.setIfInBounds_toArray, List.set_cons_zero, List.set_cons_succ]
  refine wpAnyH_ready (rs := [25]) (by kernel_rfl) (by simp) ?_
  refine AllReadyH.cons (o := ⟨_, _, _, _, _, _⟩) rfl (fun K hK => ?_) AllReadyH.nil
  go_simp
  refine hK.out _ _ ?_ (fun hHeld => ?_)
  · first | exact S5'.out _ (Below.drew (Below.refl _ _)) | exact S5'.out _ (Below.drew ((Below.refl _ _).alloc (Nat.le_refl _) _)) | exact S5'.out _ hB6.out
  clear hK K
  try simp only [Act.put, List.setIfInBounds_toArray, List.set_cons_zero, List.set_cons_succ]
  refine wpAnyH_take (i := 26) (oi := ⟨_, _, _, _, _, _⟩) (v := ?_) rfl (by kernel_rfl) (by kernel_rfl) (by kernel_rfl) (fun _ _ _ h => h) (Or.inl ⟨by rfl, ?_⟩) (by assumption) ?_
  rotate_left
  · intro w hSw; (try dsimp only at hSw); go_simp; try with_reducible rfl
  try simp only [Act.put, List.setIfInBounds_toArray, List.set_cons_zero, List.set_cons_succ]
  refine wpAnyH_take (i := 27) (oi := ⟨_, _, _, _, _, _⟩) (v := ?_) rfl (by kernel_rfl) (by kernel_rfl) (by kernel_rfl) (fun _ _ _ h => h) (Or.inl ⟨by rfl, ?_⟩) (by assumption) ?_
  rotate_left
  · intro w hSw; (try dsimp only at hSw); go_simp; try with_reducible rfl
  try simp only [Act.put, List.setIfInBounds_toArray, List.set_cons_zero, List.set_cons_succ]
  refine wpAnyH_take (i := 28) (oi := ⟨_, _, _, _, _, _⟩) (v := ?_) rfl (by kernel_rfl) (by kernel_rfl) (by kernel_rfl) (fun _ _ _ h => h) (Or.inl ⟨by rfl, ?_⟩) (by assumption) ?_
  rotate_left
  · intro w hSw; (try dsimp only at hSw); go_simp; try with_reducible rfl
  try simp only [Act.put, List.setIfInBounds_toArray, List.set_cons_zero, List.set_cons_succ]
  refine wpAnyH_take (i := 29) (oi := ⟨_, _, _, _, _, _⟩) (v := ?_) rfl (by kernel_rfl) (by kernel_rfl) (by kernel_rfl) (fun _ _ _ h => h) (Or.inl ⟨by rfl, ?_⟩) (by assumption) ?_
  rotate_left
  · intro w hSw; (try dsimp only at hSw); go_simp; try with_reducible rfl
  try simp only [Act.put, List.setIfInBounds_toArray, List.set_cons_zero, List.set_cons_succ]
  refine wpAnyH_take (i := 30) (oi := ⟨_, _, _, _, _, _⟩) (v := ?_) rfl (by kernel_rfl) (by kernel_rfl) (by kernel_rfl) (fun _ _ _ h => h) (Or.inl ⟨by rfl, ?_⟩) (by assumption) ?_
  rotate_left
  · intro w hSw; (try dsimp only at hSw); go_simp; try with_reducible rfl
  try simp only [Act.put, List.setIfInBounds_toArray, List.set_cons_zero, List.set_cons_succ]
  refine wpAnyH_take (i := 31) (oi := ⟨_, _, _, _, _, _⟩) (v := ?_) rfl (by kernel_rfl) (by kernel_rfl) (by kernel_rfl) (fun _ _ _ h => h) (Or.inl ⟨by rfl, ?_⟩) (by assumption) ?_
  rotate_left
  · intro w hSw; (try dsimp only at hSw); go_simp; try with_reducible rfl
  try simp only [Act.put, List.setIfInBounds_toArray, List.set_cons_zero, List.set_cons_succ]
  refine wpAnyH_take (i := 32) (oi := ⟨_, _, _, _, _, _⟩) (v := ?_) rfl (by kernel_rfl) (by kernel_rfl) (by kernel_rfl) (fun _ _ _ h => h) (Or.inl ⟨by rfl, ?_⟩) (by assumption) ?_
  rotate_left
  · intro w hSw; (try dsimp only at hSw); go_simp; try with_reducible rfl
  try simp only [Act.put, List.setIfInBounds_toArray, List.set_cons_zero, List.set_cons_succ]
  refine wpAnyH_take (i := 33) (oi := ⟨_, _, _, _, _, _⟩) (v := ?_) rfl (by kernel_rfl) (by kernel_rfl) (by kernel_rfl) (fun _ _ _ h => h) (Or.inl ⟨by rfl, ?_⟩) (by assumption) ?_
  rotate_left
  · intro w hSw; (try dsimp only at hSw); go_simp; try with_reducible rfl
  try simp only [Act.put, List.setIfInBounds_toArray, List.set_cons_zero, List.set_cons_succ]
  refine wpAnyH_take (i := 34) (oi := ⟨_, _, _, _, _, _⟩) (v := ?_) rfl (by kernel_rfl) (by kernel_rfl) (by kernel_rfl) (fun _ _ _ h => h) (Or.inl ⟨by rfl, ?_⟩) (by assumption) ?_
  rotate_left
  · intro w hSw; (try dsimp only at hSw); go_simp; try with_reducible rfl
  try simp only [Act.put, List.setIfInBounds_toArray, List.set_cons_zero, List.set_cons_succ]
  refine wpAnyH_take (i := 35) (oi := ⟨_, _, _, _, _, _⟩) (v := ?_) rfl (by kernel_rfl) (by kernel_rfl) (by kernel_rfl) (fun _ _ _ h => h) (Or.inl ⟨by rfl, ?_⟩) (by assumption) ?_
  rotate_left
  · intro w hSw; (try dsimp only at hSw); go_simp; try with_reducible rfl
  try simp only [Act.put, List.setIfInBounds_toArray, List.set_cons_zero, List.set_cons_succ]
  refine wpAnyH_take (i := 36) (oi := ⟨_, _, _, _, _, _⟩) (v := ?_) rfl (by kernel_rfl) (by kernel_rfl) (by kernel_rfl) (fun _ _ _ h => h) (Or.inl ⟨by rfl, ?_⟩) (by assumption) ?_
  rotate_left
  · intro w hSw; (try dsimp only at hSw); go_simp; try with_reducible rfl
  try simp only [Act.put, List.setIfInBounds_toArray, List.set_cons_zero, List.set_cons_succ]
  refine wpAnyH_take (i := 37) (oi := ⟨_, _, _, _, _, _⟩) (v := ?_) rfl (by kernel_rfl) (by kernel_rfl) (by kernel_rfl) (fun _ _ _ h => h) (Or.inl ⟨by rfl, ?_⟩) (by assumption) ?_
  rotate_left
  · intro w hSw; (try dsimp only at hSw); go_simp; try with_reducible rfl
  try simp only [Act.put, List.setIfInBounds_toArray, List.set_cons_zero, List.set_cons_succ]
  refine wpAnyH_take (i := 38) (oi := ⟨_, _, _, _, _, _⟩) (v := ?_) rfl (by kernel_rfl) (by kernel_rfl) (by kernel_rfl) (fun _ _ _ h => h) (Or.inl ⟨by rfl, ?_⟩) (by assumption) ?_
  rotate_left
  · intro w hSw; (try dsimp only at hSw); go_simp; try with_reducible rfl
  try simp only [Act.put, List.setIfInBounds_toArray, List.set_cons_zero, List.set_cons_succ]
  refine wpAnyH_done (by kernel_rfl) ?_ _
  refine NoPanic.normal ?_
  clear hHeld hcv6 e2
  have hz6 := hB6.out.size
  have hin6 := hinw5.below hB6.out (by omega)
  have hgw6 : gw < w6.heap.size := by omega
  have q76 := (hB6.out.block _ z5).trans q7
  have hbw6 := hbw5.trans (hB6.out.mono hbw5.size)
  have hL := Lib.hid (litRow w6 1)
  have hN := Lib.hid (Input.news (hin6.below ((Below.refl w6.heap.size w6).alloc (Nat.le_refl _) (.cells #[.int .u8 1] 5)) hgw6))
  have z36 : w3.heap.size < w6.heap.size := by omega
  clear S5' q6 q7 hin5 hinw5 hbw5 hB6 hgl3 hgw3 hin6 hW5
  go_wp2_with (at_builtin; refine wpList_append_own_at _ rfl (.tmp 85) (.tmp 86) 23 rfl w6.heap.size 5 i0 _ 1 1 Tryz.underlying23 hi0 hz0 hz1 hz2 rfl (by decide) (.slice (some ⟨w6.heap.size, 0, none⟩) 1 1) 1 (u8s [1]) rfl hL.out ⟨gw, 0, none⟩ k cw (u8s (leB i k)) rfl (by simp) hN.out (u8s_one _) (by unfold maxLen; omega) (by omega) (by simp) ?_; intro v7 w7 hown7 hgrow7 hnil7 hat7; obtain ⟨g7, c7, rfl, hg7, hgl7, hin7⟩ := Input.of_row (bs := 1 :: leB i k) hown7 (by omega); have hb7 := Lib.hid (((Below.refl w6.heap.size w6).alloc (Nat.le_refl _) (.cells #[.int .u8 1] 5)).grown hgrow7 (by simp) (fun x hx => by simp [Value.ownBlock] at hx; omega)); clear hnil7 hat7 hgrow7 hown7)
  refine (roInt1 w7 c k i hic'.out g7 0 c7 (1 + k) (Nat.add_comm 1 k) hin7 hgl7).mono ?_
  rintro e w8 ⟨rfl, hb8⟩
  have hb68 : Below w6.heap.size w6 w8 := hb7.out.trans (hb8.mono hb7.out.size)
  have q8 := (hb68.block _ z36).trans q76
  obtain ⟨W9, hW9⟩ : ∃ W, W = w8.setRow w3.heap.size (intVal i) := ⟨_, rfl⟩
  have q9 : W9.heap[w3.heap.size]? = some (.cells (intVal i) 34 (0, 0)) := by rw [hW9]; exact setRow_heap _ _ _ _ _ _ q8
  have b9 : Below w.heap.size w W9 := by
    rw [hW9]
    exact below_setRow (hbw6.trans (hb68.mono hbw6.size)) (by have := hbw3; omega) _
  replace hW9 := Lib.hid hW9
  clear hL hN hb8 hin7 hb7 hg7 hgl7
  go_wp2_with (refine store_valW rfl (.tmp 11) (.tmp 89) rfl _ rfl (intVal i) rfl (intVal i) q8 rfl rfl (plain1 2 false i 0 none 0 0) W9 hW9.out ?_)
  have z9 := sizeOf_blk q9
  refine (roNInt _ c k i hic'.out W9.heap.size 0 1 (litIn W9 0) (by simp)).mono ?_
  rintro e w10 ⟨rfl, hb10⟩
  have q10 : w10.heap[w3.heap.size]? = some (.cells (intVal i) 34 (0, 0)) := (hb10.block _ (by simp; omega)).trans (blk_alloc q9 _)
  have b10 : Below w.heap.size w w10 := (b9.alloc (by omega) _).trans (hb10.mono (by simp; omega))
  have qa : (w10.alloc (.cells noVal 34)).heap[w10.heap.size]? = some (.cells noVal 34 (0, 0)) := blk_new _ _
  obtain ⟨W11, hW11⟩ : ∃ W, W = (w10.alloc (.cells noVal 34)).setRow w10.heap.size noVal := ⟨_, rfl⟩
  have qb : W11.heap[w10.heap.size]? = some (.cells noVal 34 (0, 0)) := by rw [hW11]; exact setRow_heap _ _ _ _ _ _ qa
  have b11 : Below w10.heap.size w10 W11 := by rw [hW11]; exact below_setRow ((Below.refl _ w10).alloc (Nat.le_refl _) _) (Nat.le_refl _) _
  have qc := (b11.block _ (sizeOf_blk q10)).trans q10
  replace hW11 := Lib.hid hW11
  have k0 : W11.cell? ⟨w3.heap.size, 0, none⟩ = some (.int .i64 2) := cellOf qc 0
  have k1 : W11.cell? ⟨w3.heap.size, 2, none⟩ = some (.int .i64 i) := cellOf qc 2
  have k2 : W11.cell? ⟨w10.heap.size, 0, none⟩ = some (.int .i64 0) := cellOf qb 0
  have bE := b10.trans (b11.mono (by have := b10.size; omega))
  clear b10 b11 hb10 q10 b9 qb qc
  go_wp2_with (refine store_valW rfl (.tmp 14) (.tmp 96) rfl _ rfl noVal rfl noVal qa rfl rfl (plain1 0 false 0 0 none 0 0) W11 hW11.out ?_)
  go_ret
  exact ⟨by simp, bE⟩
end Go.Proofs.YtnnckokoaenolaaGreatDoor
