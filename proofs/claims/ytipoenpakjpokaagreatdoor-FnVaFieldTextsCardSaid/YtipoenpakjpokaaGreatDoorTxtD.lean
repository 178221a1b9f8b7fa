/- Texts: anyOf at bytes. Printed by gen_any4.py. -/
import Derived.Test.YtipoenpakjpokaaGreatDoorTxtB
set_option linter.unusedVariables false
set_option linter.unusedSimpArgs false
namespace Go.Proofs.YtipoenpakjpokaaGreatDoor
open Go.RowKit

theorem step_append_at {P : Program} {w : World} {o : Oper} {a : Act} {K : Act → World → Prop} {Q : Exit → Act → World → Prop} (s x : Operand) (t : TypeId)
    (ho : o.op = .call { callee := .builtin .append, args := #[s, x], argTypes := #[t, t] })
    (base : Nat) (e : TypeId) (i : TypeInfo) (z : Value) (size bytes : Nat) (ht : P.underlying t = some (.slice e)) (hi : P.info? e = some i) (hz : i.zero = some z)
    (hsize : i.size = size) (hby : i.bytes = bytes) (hzs : z.cells.size = size) (hsz : 0 < size)
    (v : Value) (n : Nat) (xs : List Value) (hs : a.eval s = v) (hown : w.ownsRow base e size v n xs)
    (ad : Addr) (m c : Nat) (news : List Value) (hx : a.eval x = .slice (some ad) m c) (hl : news.length = m * size) (hnews : ∀ j u, news[j]? = some u → w.cell? (ad.add j) = some u) (h1 : ∀ u ∈ news, u.oneCell' = true)
    (h63 : n + m ≤ maxLen) (hbytes : (n + m) * bytes ≤ 140737488355328) (hbase : base ≤ w.heap.size)
    (h : ∀ v' w', w'.ownsRow base e size v' (n + m) (xs ++ news) → w.grownBy w' v.ownBlock → (v' = .slice none 0 0 ↔ v = .slice none 0 0 ∧ m = 0) → (v'.ownBlock = v.ownBlock ∨ v'.ownBlock = some w.heap.size) → K (a.put o.dst v') w') :
    Oper.wp P o a w K Q := by
  obtain ⟨v', w', hr, h2, h3, h4, h5⟩ := run_append_own_at (P := P) w base t o.type e i z size bytes ht hi hz hsize hby hzs hsz v n xs hown ad m c news hl hnews h1 h63 hbytes hbase
  unfold Oper.wp execOp
  simp only [ho, resolve, invoke, builtin, Sem.run_bind, Sem.run_pure, Result.andThen_ok, List.map_toArray, List.map_cons, List.map_nil, hs, hx, hr]
  exact h v' w' h2 h3 h4 h5

set_option maxRecDepth 100000 in
set_option maxHeartbeats 1000000 in
theorem anyOf4 (w : World) (b n c : Nat) (ts : List Int) (bb : Bool) (i : Int) (f : Nat) (s : ByteArray) (rn : Bool) (ra rd : Value) (hin : Input w b 0 n c ts) (hb : b < w.heap.size) (hn : n ≤ 3000) :
    Calls Tryz.prog 12 #[.agg (valCells 4 bb i f (.slice (some ⟨b, 0, none⟩) n c) s rn ra rd)] w fun e w' =>
      ∃ g c', e = .returned (.tuple #[.iface 22 (.slice (some ⟨g, 0, none⟩) n c'), .bool true]) ∧ w'.ownsRow w.heap.size 5 1 (.slice (some ⟨g, 0, none⟩) n c') n (u8s ts) ∧ Below w.heap.size w w' := by
  obtain ⟨W0, hW0⟩ : ∃ W, W = w.alloc (.cells (valCells 4 bb i f (.slice (some ⟨b, 0, none⟩) n c) s rn ra rd) 36) := ⟨_, rfl⟩
  have hb0 : Below w.heap.size w W0 := by rw [hW0]; exact (Below.refl _ w).alloc (Nat.le_refl _) _
  have z0 : w.heap.size + 1 = W0.heap.size := by rw [hW0]; simp
  obtain ⟨i0, hi0, hz0, hz1, hz2⟩ := info_parts Tryz.info5
  have hE : (W0.alloc (.cells #[] 5)).ownsRow W0.heap.size 5 1 (.slice (some ⟨W0.heap.size, 0, none⟩) 0 0) 0 (u8s []) := World.ownsRow_lit W0 #[] 0 (Nat.le_refl _) (by decide) rfl
  have hb1 : Below W0.heap.size W0 (W0.alloc (.cells #[] 5)) := (Below.refl _ W0).alloc (Nat.le_refl _) _
  have hN := Lib.hid (Input.news ((hin.below hb0 hb).below hb1 (by omega)))
  have hlen := Lib.hid hin.len
  have hE' := Lib.hid hE
  have hW0' := Lib.hid hW0
  have z0' := Lib.hid z0
  have hb0' := Lib.hid hb0
  have hb1' := Lib.hid hb1
  have hn1 : (n : Int) ≤ 131072 := by omega
  have S5' : Hid (∀ W', Below W0.heap.size W0 W' → W'.cell? ⟨w.heap.size, 4, none⟩ = some (.slice (some ⟨b, 0, none⟩) n c)) := Lib.hid fun W' hW' => by
    have q : W0.heap[w.heap.size]? = some (.cells (valCells 4 bb i f (.slice (some ⟨b, 0, none⟩) n c) s rn ra rd) 36 (0, 0)) := by rw [hW0]; exact blk_new _ _
    rw [cellOf ((hW'.block _ (by omega)).trans q)]
    rfl
  clear hE hin hb0 hb1 z0 hW0
  go_enter Tryz.func12, Tryz.ntmps12
  go_wp2_with fail
  rw [← hW0'.out]
  -- the region
  refine wp_region_noPanic ?_
  refine wp_region_held_drew (S := fun w' => w'.cell? ⟨w.heap.size, 4, none⟩ = some (.slice (some ⟨b, 0, none⟩) n c)) (by kernel_rfl) ?_ (fun hHeld => ?_)
  · first | exact S5'.out _ (Below.drew (Below.refl _ _)) | exact S5'.out _ (Below.drew ((Below.refl _ _).alloc (Nat.le_refl _) _)) | exact S5'.out _ hB6.out
  refine wpAnyH_take (i := 1) (oi := ⟨_, _, _, _, _, _⟩) (v := ?_) rfl (by kernel_rfl) (by kernel_rfl) (by kernel_rfl) (fun _ _ _ h => h) (Or.inl ⟨by rfl, ?_⟩) (by assumption) ?_
  rotate_left
  · intro w hSw; (try dsimp only at hSw); go_simp; try with_reducible rfl
  try simp only [Act.put, List.setIfInBounds_toArray, List.set_cons_zero, List.set_cons_succ]
  refine wpAnyH_take (i := 2) (oi := ⟨_, _, _, _, _, _⟩) (v := ?_) rfl (by kernel_rfl) (by kernel_rfl) (by kernel_rfl) (fun _ _ _ h => h) (Or.inl ⟨by rfl, ?_⟩) (by assumption) ?_
  rotate_left
  · intro w hSw; (try dsimp only at hSw); go_simp; try with_reducible rfl
  try simp only [Act.put, List.setIfInBounds_toArray, List.set_cons_zero, List.set_cons_succ]
  refine wpAnyH_take (i := 5) (oi := ⟨_, _, _, _, _, _⟩) (v := ?_) rfl (by kernel_rfl) (by kernel_rfl) (by kernel_rfl) (fun _ _ _ h => h) (Or.inl ⟨by rfl, ?_⟩) (by assumption) ?_
  rotate_left
  · intro w hSw; (try dsimp only at hSw); go_simp; try with_reducible rfl
  try simp only [Act.put, List.setIfInBounds_toArray, List.set_cons_zero, List.set_cons_succ]
  refine wpAnyH_take (i := 6) (oi := ⟨_, _, _, _, _, _⟩) (v := ?_) rfl (by kernel_rfl) (by kernel_rfl) (by kernel_rfl) (fun _ _ _ h => h) (Or.inl ⟨by rfl, ?_⟩) (by assumption) ?_
  rotate_left
  · intro w hSw; (try dsimp only at hSw); go_simp; try with_reducible rfl
  try simp only [Act.put, List.setIfInBounds_toArray, List.set_cons_zero, List.set_cons_succ]
  refine wpAnyH_take (i := 7) (oi := ⟨_, _, _, _, _, _⟩) (v := ?_) rfl (by kernel_rfl) (by kernel_rfl) (by kernel_rfl) (fun _ _ _ h => h) (Or.inl ⟨by rfl, ?_⟩) (by assumption) ?_
  rotate_left
  · intro w hSw; (try dsimp only at hSw); go_simp; try with_reducible rfl
  try simp only [Act.put, List.setIfInBounds_toArray, List.set_cons_zero, List.set_cons_succ]
  refine wpAnyH_take (i := 8) (oi := ⟨_, _, _, _, _, _⟩) (v := ?_) rfl (by kernel_rfl) (by kernel_rfl) (by kernel_rfl) (fun _ _ _ h => h) (Or.inl ⟨by rfl, ?_⟩) (by assumption) ?_
  rotate_left
  · intro w hSw; (try dsimp only at hSw); go_simp; try with_reducible rfl
  try simp only [Act.put, List.setIfInBounds_toArray, List.set_cons_zero, List.set_cons_succ]
  refine wpAnyH_ready (rs := [0]) (by kernel_rfl) (by simp) ?_
  refine AllReadyH.cons (o := ⟨_, _, _, _, _, _⟩) rfl (fun K hK => ?_) AllReadyH.nil
  go_simp
  refine hK.out _ _ ?_ (fun hHeld => ?_)
  · first | exact S5'.out _ (Below.drew (Below.refl _ _)) | exact S5'.out _ (Below.drew ((Below.refl _ _).alloc (Nat.le_refl _) _)) | exact S5'.out _ hB6.out
  clear hK K
  try simp only [Act.put, List.setIfInBounds_toArray, List.set_cons_zero, List.set_cons_succ]
  refine wpAnyH_ready (rs := [3]) (by kernel_rfl) (by simp) ?_
  refine AllReadyH.cons (o := ⟨_, _, _, _, _, _⟩) rfl (fun K hK => ?_) AllReadyH.nil
  refine step_append_at (.tmp 30) (.tmp 32) 22 (by rfl) W0.heap.size 5 i0 _ 1 1 Tryz.underlying22 hi0 hz0 hz1 hz2 rfl (by decide) _ 0 (u8s []) (by rfl) (hE'.out.drew)
    ⟨b, 0, none⟩ n c (u8s ts) (by rfl) (by simpa using hlen.out) hN.out (u8s_one _) (by unfold maxLen; omega) (by omega) (by simp) ?_
  intro v7 w6 hown6 hgrow hnil hat
  have hB6 := Lib.hid ((Below.drew ((Below.refl W0.heap.size W0).alloc (Nat.le_refl _) _)).grown hgrow (by simp) (fun x hx => by simp [Value.ownBlock] at hx; omega))
  have hown6' := Lib.hid hown6
  have hnil' := Lib.hid hnil
  clear hown6 hgrow hat hnil
  refine hK.out _ _ ?_ (fun hHeld => ?_)
  · first | exact S5'.out _ (Below.drew (Below.refl _ _)) | exact S5'.out _ (Below.drew ((Below.refl _ _).alloc (Nat.le_refl _) _)) | exact S5'.out _ hB6.out
  clear hK K
  try simp only [Act.put, List.setIfInBounds_toArray, List.set_cons_zero, List.set_cons_succ]
  refine wpAnyH_take (i := 4) (oi := ⟨_, _, _, _, _, _⟩) (v := ?_) rfl (by kernel_rfl) (by kernel_rfl) (by kernel_rfl) (fun _ _ _ h => h) (Or.inl ⟨by rfl, ?_⟩) (by assumption) ?_
  rotate_left
  · intro w hSw; (try dsimp only at hSw); go_simp; try with_reducible rfl
  try simp only [Act.put, List.setIfInBounds_toArray, List.set_cons_zero, List.set_cons_succ]
  refine wpAnyH_take (i := 9) (oi := ⟨_, _, _, _, _, _⟩) (v := ?_) rfl (by kernel_rfl) (by kernel_rfl) (by kernel_rfl) (fun _ _ _ h => h) (Or.inl ⟨by rfl, ?_⟩) (by assumption) ?_
  rotate_left
  · intro w hSw; (try dsimp only at hSw); go_simp; try with_reducible rfl
  try simp only [Act.put, List.setIfInBounds_toArray, List.set_cons_zero, List.set_cons_succ]
  refine wpAnyH_take (i := 10) (oi := ⟨_, _, _, _, _, _⟩) (v := ?_) rfl (by kernel_rfl) (by kernel_rfl) (by kernel_rfl) (fun _ _ _ h => h) (Or.inl ⟨by rfl, ?_⟩) (by assumption) ?_
  rotate_left
  · intro w hSw; (try dsimp only at hSw); go_simp; try with_reducible rfl
  try simp only [Act.put, List.setIfInBounds_toArray, List.set_cons_zero, List.set_cons_succ]
  refine wpAnyH_done (by kernel_rfl) ?_ _
  refine NoPanic.normal ?_
  clear hHeld
  have hf : ∃ g c', v7 = .slice (some ⟨g, 0, none⟩) n c' := by
    obtain ⟨_, ⟨hv, _⟩ | ⟨g, cap, cur, hv, _⟩⟩ := hown6'.out
    · exact absurd (hnil'.out.1 hv).1 (by simp)
    · exact ⟨g, cap, by simpa using hv⟩
  obtain ⟨g, c', rfl⟩ := hf
  have z0 := z0'.out
  have hown7 := row_lower (base' := w.heap.size) hown6'.out (by omega)
  rw [show u8s [] ++ u8s ts = u8s ts from rfl, Nat.zero_add] at hown7
  have hb7 := Lib.hid (hb0'.out.trans (hB6.out.mono (by omega)))
  replace hown7 := Lib.hid hown7
  clear hown6' hnil' hB6 hE' hN S5' hW0' hb0' hb1'
  go_wp2
  go_ret2
  exact ⟨g, c', rfl, hown7.out, hb7.out⟩
end Go.Proofs.YtipoenpakjpokaaGreatDoor
