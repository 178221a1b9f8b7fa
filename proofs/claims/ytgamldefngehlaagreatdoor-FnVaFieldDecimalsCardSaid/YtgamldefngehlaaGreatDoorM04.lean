/- Parts of the walk. -/
import Derived.Test.YtgamldefngehlaaGreatDoorM03
import Derived.Test.YtgamldefngehlaaGreatDoorM07
set_option linter.unusedVariables false
set_option linter.unusedSimpArgs false
namespace Go.Proofs.YtgamldefngehlaaGreatDoor
open Go.RowKit
theorem digs_trim {xs : List Nat} (hw : Words WB xs) (i : Nat) (hi : i ≤ xs.length) (hz : ∀ j (h : j < xs.length), i ≤ j → xs[j] = 0) (hn : i = 0 ∨ ∃ h : i - 1 < xs.length, xs[i - 1] ≠ 0) : digs WB (val WB xs) = xs.take i := by
 have e : xs = xs.take i ++ List.replicate (xs.length - i) 0 := by
  refine List.ext_getElem (by simp; omega) fun j h1 h2 => ?_
  by_cases hj : j < i
  ·rw [List.getElem_append_left (by simp; omega)]; simp
  ·rw [List.getElem_append_right (by simp; omega)]; simp [hz j h1 (by omega)]
 have hv : val WB xs = val WB (xs.take i) := by
  conv => lhs; rw [e]
  exact val_zeros _ _
 rw [hv]
 refine digs_val WB_one (hw.take i) fun hne => ?_
 rcases hn with rfl | ⟨h, hn⟩
 ·simp at hne
 ·rw [List.getLast_eq_getElem]
  simp only [List.length_take, List.getElem_take]
  have : min i xs.length - 1 = i - 1 := by omega
  simpa [this] using hn
theorem NatRow.head {w : World} {base g : Nat} {C xs : List Nat} {n : Nat} (hb : base ≤ g) (hC : Blk w g C) (hw : Words WB C) (h0 : 0 < C.length) (hl : C.length ≤ 1000000) (hn : n ≤ C.length) (hx : C.take n = xs) : NatRow w base (.slice (some ⟨g, 0, none⟩) n C.length) xs := by
 have e : xs.length = n := by rw [← hx]; simp; omega
 subst e
 exact .inr ⟨g, C, rfl, hb, hC, hw, hx, h0, hl⟩
set_option maxRecDepth 100000 in
theorem norm_row (w : World) (base g n : Nat) (C : List Nat) (hb : base ≤ g) (hC : Blk w g C) (hw : Words WB C) (hn : n ≤ C.length) (h0 : 0 < C.length) (hl : C.length ≤ 1000000) :
  Calls Tryz.prog 249 #[.slice (some ⟨g, 0, none⟩) n C.length] w fun e w' => ∃ m : Nat, e = .returned (.slice (some ⟨g, 0, none⟩) m C.length) ∧ w' = w ∧ m ≤ n ∧ NatAt w base (.slice (some ⟨g, 0, none⟩) m C.length) (val WB (C.take n)) := by
 go_enter Tryz.func249, Tryz.ntmps249
 go_wp2_with fail
 go_loopw [3] (fun i wr => ∃ k : Nat, k ≤ n ∧ i = .int .i64 k ∧ wr = w ∧ ∀ j (h : j < C.length), k ≤ j → j < n → C[j] = 0) (fun i _ => (intOf i).toNat)
 case atStart => exact ⟨n, Nat.le_refl _, rfl, rfl, fun j _ h1 h2 => by omega⟩
 case round =>
  obtain ⟨k, hk, rfl, rfl, hz⟩ := hrel
  by_cases hk0 : k = 0
  ·subst hk0
   go_wp2_with fail
   go_ret
   refine ⟨0, rfl, rfl, Nat.zero_le _, ?_⟩
   refine NatRow.head hb hC hw h0 hl (Nat.zero_le _) ?_
   rw [digs_trim (hw.take n) 0 (Nat.zero_le _) (fun j h _ => ?_) (.inl rfl)]
   ·simp
   ·simp only [List.length_take] at h
    rw [List.getElem_take]; exact hz j (by omega) (Nat.zero_le _) (by omega)
  ·have hc := hC.cell (k - 1) (by omega)
   have e1 : (k : Int) - 1 = ((k - 1 : Nat) : Int) := by omega
   have hk1 : (0 : Int) < k := by omega
   obtain ⟨k1, hk1'⟩ : ∃ k1, k - 1 = k1 := ⟨_, rfl⟩
   by_cases hx : C[k - 1] = 0
   ·rw [hx] at hc
    rw [hk1'] at hc e1
    go_wp2_with fail
    go_roundw
    case rel =>
     refine ⟨k1, by omega, by go_num, by simp, fun j h h1 h2 => ?_⟩
     by_cases e : j = k - 1
     ·subst e; exact hx
     ·exact hz j h (by omega) h2
    case measure => simp [intOf]; omega
   ·have hx' : ¬ ((C[k - 1] : Nat) : Int) = 0 := by omega
    generalize hd : C[k - 1] = d at *
    rw [hk1'] at hc e1
    go_wp2_with fail
    go_ret
    refine ⟨k, rfl, rfl, hk, ?_⟩
    refine NatRow.head hb hC hw h0 hl (by omega) ?_
    rw [digs_trim (hw.take n) k (by simp; omega) (fun j h h1 => ?_) (.inr ⟨by simp; omega, ?_⟩)]
    ·rw [List.take_take, Nat.min_eq_left hk]
    ·rw [List.getElem_take]; omega
    ·simp only [List.length_take] at h
     rw [List.getElem_take]; exact hz j (by omega) h1 (by omega)
theorem norm_nil (w : World) : Calls Tryz.prog 249 #[.slice none 0 0] w fun e w' => e = .returned (.slice none 0 0) ∧ w' = w := by
 go_enter Tryz.func249, Tryz.ntmps249
 go_wp2_with fail
 go_loopw [3] (fun i wr => i = .int .i64 0 ∧ wr = w) (fun i _ => 0)
 case atStart => exact ⟨rfl, rfl⟩
 case round =>
  obtain ⟨rfl, rfl⟩ := hrel
  go_wp2_with fail
  go_ret
  exact ⟨rfl, rfl⟩
structure NatOut (w w' : World) (base : Nat) (zv v' : Value) (xs : List Nat) : Prop where
 row : NatRow w' base v' xs
 keep : Keeps (fun k => zv.ownBlock = some k) w w'
 own : ∀ k, v'.ownBlock = some k → zv.ownBlock = some k ∨ w.heap.size ≤ k
structure Made (w w' : World) (base n : Nat) (zv : Value) (g : Nat) (C : List Nat) : Prop where
 fit : n ≤ C.length
 blk : Blk w' g C
 words : Words WB C
 base : base ≤ g
 big : C.length ≤ 1000000
 keep : Keeps (fun _ => False) w w'
 own : zv.ownBlock = some g ∨ w.heap.size ≤ g
theorem made_zeros (c : Nat) : madeCells #[Value.int .u64 0] c = (u64s (List.replicate c 0)).toArray := by
 refine Array.ext (by simp [madeCells]) fun i h1 h2 => ?_
 simp [madeCells, Nat.mod_one]
theorem Made.drew {w w1 : World} {base n : Nat} {zv : Value} {g : Nat} {C : List Nat} (h : Made w w1 base n zv g C) : Made w w1.drew base n zv g C := ⟨h.fit, h.blk, h.words, h.base, h.big, h.keep.drew, h.own⟩
theorem blk_zeros (w : World) (c : Nat) : Blk (w.alloc (.cells (madeCells #[Value.int .u64 0] c) 225 (0, 0))) w.heap.size (List.replicate c 0) := by
 unfold Blk
 rw [blk_new, made_zeros]
theorem makeRun (T : TypeId) (hT : Tryz.prog.underlying T = some (.slice 225)) (l c : Nat) (hlc : l ≤ c) (hc : c ≤ 1000000) (w : World) :
  (Instr.makeSlice T (.int .i64 (l : Int)) (.int .i64 (c : Int))).run Tryz.prog w = .ok (.slice (some ⟨w.heap.size, 0, none⟩) l c) (w.alloc (.cells (madeCells #[Value.int .u64 0] c) 225 (0, 0))) := by
 obtain ⟨i, hi, hzz⟩ := Option.map_eq_some_iff.1 Tryz.infoW
 simp only [Prod.mk.injEq] at hzz
 obtain ⟨hz, hs, hb⟩ := hzz
 have hr := run_make (P := Tryz.prog) w T 225 i (.int .u64 0) hT hi hz .i64 .i64 l c (by omega) (by omega) (by rw [hb]; omega) (by omega)
 simp only [Int.toNat_natCast, hs, Nat.mul_one] at hr
 exact hr
theorem makeN (l c : Nat) (hlc : l ≤ c) (hc : c ≤ 1000000) (w : World) :
  (Instr.makeSlice 137 (.int .i64 (l : Int)) (.int .i64 (c : Int))).run Tryz.prog w = .ok (.slice (some ⟨w.heap.size, 0, none⟩) l c) (w.alloc (.cells (madeCells #[Value.int .u64 0] c) 225 (0, 0))) := makeRun 137 Tryz.underlying137 l c hlc hc w
theorem makeN4 (n : Nat) (hc : n ≤ 100000) (w : World) :
  (Instr.makeSlice 137 (.int .i64 (n : Int)) (.int .i64 ((n : Int) + 4))).run Tryz.prog w = .ok (.slice (some ⟨w.heap.size, 0, none⟩) n (n + 4 : Nat)) (w.alloc (.cells (madeCells #[Value.int .u64 0] (n + 4)) 225 (0, 0))) := makeN n (n + 4) (by omega) (by omega) w
theorem makeN1 (w : World) :
  (Instr.makeSlice 137 (.int .i64 1) (.int .i64 1)).run Tryz.prog w = .ok (.slice (some ⟨w.heap.size, 0, none⟩) 1 1) (w.alloc (.cells (madeCells #[Value.int .u64 0] 1) 225 (0, 0))) := makeN 1 1 (by omega) (by omega) w
theorem Made.new {w : World} {base n c : Nat} {zv : Value} (h : n ≤ c) (hc : c ≤ 1000000) (hB : base ≤ w.heap.size) : Made w (w.alloc (.cells (madeCells #[Value.int .u64 0] c) 225 (0, 0))) base n zv w.heap.size (List.replicate c 0) :=
 ⟨by simpa using h, blk_zeros w c, Words.replicate WB_pos c, hB, by simpa using hc, (Keeps.refl _ _).alloc _, .inr (Nat.le_refl _)⟩
set_option maxRecDepth 100000 in
theorem make_any (w : World) (base n : Nat) (zv : Value) (xs : List Nat) (h : NatRow w base zv xs) (hn : 0 < n) (hn' : n ≤ 100000) (hB : base ≤ w.heap.size) :
  Calls Tryz.prog 202 #[zv, .int .i64 n] w fun e w' => ∃ g C, e = .returned (.slice (some ⟨g, 0, none⟩) n C.length) ∧ Made w w' base n zv g C := by
 have hm := makeN4 n hn' w
 have hm1 := makeN1 w
 have t3 : ¬ (n : Int) + 4 < 0 := by omega
 rcases h with ⟨rfl, rfl⟩ | ⟨g, C, rfl, hb, hC, hw, ht, h0, hl⟩
 ·have t1 : ¬ (n : Int) ≤ 0 := by omega
  by_cases hn1 : n = 1
  ·subst hn1
   go_enter Tryz.func202, Tryz.ntmps202
   go_wp2_with fail
   go_ret
   exact ⟨w.heap.size, List.replicate 1 0, by simp, .new (by omega) (by omega) hB⟩
  ·have t2 : ¬ (n : Int) = 1 := by omega
   go_enter Tryz.func202, Tryz.ntmps202
   go_wp2_with fail
   go_ret
   exact ⟨w.heap.size, List.replicate (n + 4) 0, by simp, .new (by omega) (by omega) hB⟩
 ·by_cases hc : n ≤ C.length
  ·have t1 : (n : Int) ≤ C.length := by omega
   go_enter Tryz.func202, Tryz.ntmps202
   go_wp2_with fail
   go_ret
   exact ⟨g, C, rfl, hc, hC, hw, hb, hl, Keeps.refl _ _, .inl rfl⟩
  ·have t1 : ¬ (n : Int) ≤ C.length := by omega
   by_cases hn1 : n = 1
   ·omega
   ·have t2 : ¬ (n : Int) = 1 := by omega
    go_enter Tryz.func202, Tryz.ntmps202
    go_wp2_with fail
    go_ret
    exact ⟨w.heap.size, List.replicate (n + 4) 0, by simp, .new (by omega) (by omega) hB⟩
theorem make_zero (w : World) (base : Nat) (zv : Value) (xs : List Nat) (h : NatRow w base zv xs) :
  Calls Tryz.prog 202 #[zv, .int .i64 0] w fun e w' => ∃ v', e = .returned v' ∧ w' = w ∧ NatRow w base v' [] ∧ v'.ownBlock = zv.ownBlock := by
 rcases h with ⟨rfl, rfl⟩ | ⟨g, C, rfl, hb, hC, hw, ht, h0, hl⟩
 ·go_enter Tryz.func202, Tryz.ntmps202
  go_wp2_with fail
  go_ret
  exact ⟨_, rfl, rfl, .nil _ _, rfl⟩
 ·go_enter Tryz.func202, Tryz.ntmps202
  go_wp2_with fail
  go_ret
  exact ⟨_, rfl, rfl, .head hb hC hw h0 hl (Nat.zero_le _) (by simp), rfl⟩
theorem NatRow.empty {w : World} {base : Nat} {zv : Value} {xs : List Nat} (h : NatRow w base zv xs) : ∃ p n c, zv = .slice p n c ∧ NatRow w base (.slice p 0 c) [] := by
 rcases h with ⟨rfl, rfl⟩ | ⟨g, C, rfl, hb, hC, hw, ht, h0, hl⟩
 ·exact ⟨none, 0, 0, rfl, .nil _ _⟩
 ·exact ⟨_, _, _, rfl, .head hb hC hw h0 hl (Nat.zero_le _) (by simp)⟩
theorem Made.out {w w1 w2 : World} {base n : Nat} {zv : Value} {g : Nat} {C zs : List Nat} (h : Made w w1 base n zv g C) (hn : 0 < n) (hz : VecOut w1 w2 g 0 C zs n) :
  NatOut w w2 base zv (.slice (some ⟨g, 0, none⟩) n C.length) zs ∧ Blk w2 g (over C 0 zs) ∧ Words WB (over C 0 zs) ∧ (over C 0 zs).length = C.length ∧ (over C 0 zs).take n = zs := by
 have hf := h.fit
 have hzl := hz.len
 have hl : (over C 0 zs).length = C.length := over_length _ _ _ (by omega)
 have hw := over_words (o := 0) h.words hz.words
 have ht : (over C 0 zs).take n = zs := by
  unfold over
  simp only [List.take_zero, List.nil_append, Nat.zero_add]
  rw [List.take_append_of_le_length (by omega), List.take_of_length_le (by omega)]
 refine ⟨⟨?_, ?_, ?_⟩, hz.blk, hw, hl, ht⟩
 ·have := NatRow.head h.base hz.blk hw (by omega) (by rw [hl]; exact h.big) (n := n) (by omega) ht
  rwa [hl] at this
 ·refine (h.keep.mono (fun _ _ x => x.elim)).trans hz.keep fun k hk e => ?_
  subst e
  rcases h.own with h1 | h1
  ·exact h1
  ·omega
 ·intro k hk
  simp only [Value.ownBlock, Option.some.injEq] at hk
  subst hk
  exact h.own
end Go.Proofs.YtgamldefngehlaaGreatDoor
namespace Go.Proofs.YtgamldefngehlaaGreatDoor
open Go.RowKit
theorem NatOut.of_empty {w : World} {base : Nat} {p : Option Addr} {n c : Nat} (h : NatRow w base (.slice p 0 c) []) : NatOut w w base (.slice p n c) (.slice p 0 c) [] := ⟨h, Keeps.refl _ _, fun k hk => .inl (by cases p <;> first | exact hk | simp [Value.ownBlock] at hk)⟩
set_option maxRecDepth 100000 in
theorem setWord_any (w : World) (base : Nat) (zv : Value) (xs : List Nat) (x : Nat) (h : NatRow w base zv xs) (hx : x < WB) (hB : base ≤ w.heap.size) :
  Calls Tryz.prog 203 #[zv, .int .u64 x] w fun e w' => ∃ v', e = .returned v' ∧ NatOut w w' base zv v' (digs WB x) := by
 by_cases h0 : x = 0
 ·subst h0
  rw [digs_zero]
  obtain ⟨p, n, c, rfl, h'⟩ := h.empty
  rcases h with ⟨hv, rfl⟩ | ⟨g, C, hv, hb, hC, hw, ht, h0, hl⟩
  ·injection hv with h1 h2 h3
   subst h1 h2 h3
   go_enter Tryz.func203, Tryz.ntmps203
   go_wp2_with fail
   go_ret
   exact ⟨_, rfl, .of_empty h'⟩
  ·injection hv with h1 h2 h3
   subst h1 h2 h3
   go_enter Tryz.func203, Tryz.ntmps203
   go_wp2_with fail
   go_ret
   exact ⟨_, rfl, .of_empty h'⟩
 ·have t0 : ¬ (x : Int) = 0 := by omega
  have hM := Lib.hid (make_any w base 1 zv xs h (by omega) (by omega) hB)
  go_enter Tryz.func203, Tryz.ntmps203
  go_wp2_with fail
  refine hM.out.mono ?_
  rintro e w1 ⟨g, C, rfl, hm⟩
  have hf := hm.fit
  have hc := hm.blk.cell 0 (by omega)
  have hfr := hm.blk.frozen 0
  go_wp2_with fail
  go_ret
  refine ⟨_, rfl, ?_⟩
  have hv := (VecOut.start (oz := 0) hm.blk).snoc (C := C) x hx (by omega)
  rw [digs_small WB_one h0 hx]
  exact (hm.out (by omega) hv).1
theorem fitsWhole {w w1 : World} {base n gx cz cx : Nat} {zv : Value} {g : Nat} {C Cx : List Nat} (hm : Made w w1 base n zv g C) (hx : Blk w gx Cx) (hn : n ≤ Cx.length) :
  CopyFits w1 (some ⟨g, 0, none⟩) (some ⟨gx, 0, none⟩) n n g 0 (u64s C) (u64s (Cx.take n)) n := by
 have hf := hm.fit
 refine ⟨by simp; omega, (Nat.min_self _).symm, fun hp => ⟨rfl, _, rfl, fun j v hj => ?_⟩, by simp; omega, u64s_one _⟩
 obtain ⟨hj', rfl⟩ := List.getElem?_eq_some_iff.1 hj
 simp only [List.length_map, List.length_take] at hj'
 have := (hx.kept hm.keep (fun h => h)).cell j (by omega)
 rw [Addr.add_lit, Nat.zero_add, this]
 simp
theorem VecOut.ofSplice {w w1 : World} {g n : Nat} {C xs : List Nat} (h : Spliced g 225 (u64s C) 0 (u64s xs) w w1) (hw : Words WB xs) (hn : xs.length = n) : VecOut w w1 g 0 C xs n :=
 ⟨hn, hw, h.blk.1, h.blk.2⟩
set_option maxRecDepth 100000 in
theorem set_any (w : World) (base base' : Nat) (zv xv : Value) (zs xs : List Nat) (h : NatRow w base zv zs) (hx : NatRow w base' xv xs) (hB : base ≤ w.heap.size) (hl : xs.length ≤ 100000) :
  Calls Tryz.prog 137 #[zv, xv] w fun e w' => ∃ v', e = .returned v' ∧ NatOut w w' base zv v' xs := by
 have hwords := hx.words
 by_cases h0 : xs.length = 0
 ·obtain rfl : xs = [] := List.eq_nil_of_length_eq_zero h0
  have hM := Lib.hid (make_zero w base zv zs h)
  obtain ⟨px, nx, cx, rfl, -⟩ := hx.empty
  have hx0 : nx = 0 := by
   rcases hx with ⟨hv, _⟩ | ⟨g, C, hv, _⟩ <;> (injection hv with h1 h2 h3)
  subst hx0
  go_enter Tryz.func137, Tryz.ntmps137
  go_wp2_with fail
  refine hM.out.mono ?_
  rintro e w1 ⟨v', rfl, hw1, hr, ho⟩
  obtain rfl := hw1.symm
  obtain ⟨p, n, c, rfl, -⟩ := hr.empty
  have hn0 : n = 0 := by
   rcases hr with ⟨hv, _⟩ | ⟨g, C, hv, _⟩ <;> (injection hv with h1 h2 h3)
  subst hn0
  have hcp := run_copy_none (P := Tryz.prog) w 137 137 3 225 p px 0 c 0 cx Tryz.underlying137 Tryz.infoWsize rfl
  go_wp2_with fail
  go_ret
  exact ⟨_, rfl, hr, Keeps.refl _ _, fun k hk => .inl (ho ▸ hk)⟩
 ·rcases hx with ⟨rfl, rfl⟩ | ⟨gx, Cx, rfl, hbx, hCx, hwx, htx, h0x, hlx⟩
  ·exact absurd rfl h0
  have hM := Lib.hid (make_any w base xs.length zv zs h (by omega) hl hB)
  have hxl : xs.length ≤ Cx.length := by rw [← htx]; simp; omega
  go_enter Tryz.func137, Tryz.ntmps137
  go_wp2_with fail
  refine hM.out.mono ?_
  rintro e w1 ⟨g, C, rfl, hm⟩
  have q := fitsWhole (cz := C.length) (cx := Cx.length) hm hCx hxl
  rw [htx] at q
  have hblk := hm.blk
  go_wp2_with (refine wpList_copy_kept rfl (.tmp 9) (.tmp 10) 137 137 rfl 225 Tryz.underlying137 Tryz.infoWsize (some ⟨g, 0, none⟩) (some ⟨gx, 0, none⟩) xs.length C.length xs.length Cx.length rfl rfl g 0 (u64s C) 225 hblk (u64s xs) xs.length q ?_; intro w2 hsp)
  go_wp2_with fail
  go_ret
  exact ⟨_, rfl, (hm.out (by omega) (.ofSplice hsp hwords rfl)).1⟩
def sameBlk (v u : Value) : Bool := decide (v.ownBlock = u.ownBlock) && v.ownBlock.isSome
theorem sameBlk_iff (v u : Value) : sameBlk v u = true ↔ v.ownBlock = u.ownBlock ∧ v.ownBlock ≠ none := by
 unfold sameBlk
 rw [Bool.and_eq_true, decide_eq_true_eq, Option.isSome_iff_ne_none]
set_option maxRecDepth 100000 in
theorem alias_any0 (w : World) (bx by_ : Nat) (xv yv : Value) (xs ys : List Nat) (hx : NatRow w bx xv xs) (hy : NatRow w by_ yv ys) :
  Calls Tryz.prog 136 #[xv, yv] w fun e w' => ∃ (b : Bool) (n : Nat), e = .returned (.bool b) ∧ (b = true ↔ xv.ownBlock = yv.ownBlock ∧ xv.ownBlock ≠ none) ∧ w' = w.drewN n := by
 rcases hx with ⟨rfl, rfl⟩ | ⟨g, C, rfl, hb, hC, hw, ht, h0, hl⟩
 ·have : ∃ p n c, yv = .slice p n c := by
   obtain ⟨p, n, c, h, _⟩ := hy.empty
   exact ⟨p, n, c, h⟩
  obtain ⟨p, n, c, rfl⟩ := this
  go_enter Tryz.func136, Tryz.ntmps136
  go_wp2_with fail
  go_region
  go_wp2_with fail
  go_ret
  exact ⟨false, 1, rfl, by simp [Value.ownBlock], rfl⟩
 ·have t0 : (0 : Int) < C.length := by omega
  rcases hy with ⟨rfl, rfl⟩ | ⟨g', C', rfl, hb', hC', hw', ht', h0', hl'⟩
  ·go_enter Tryz.func136, Tryz.ntmps136
   go_wp2_with fail
   go_region
   go_wp2_with fail
   go_ret
   exact ⟨false, 1, rfl, by simp [Value.ownBlock], rfl⟩
  ·have t0' : (0 : Int) < C'.length := by omega
   have hk : Known w.drew g := ⟨_, _, hC⟩
   have hk' : Known w.drew g' := ⟨_, _, hC'⟩
   obtain ⟨k, hkk⟩ : ∃ k, C.length - 1 = k := ⟨_, rfl⟩
   obtain ⟨k', hkk'⟩ : ∃ k, C'.length - 1 = k := ⟨_, rfl⟩
   have e1 : (C.length : Int) - 1 = (k : Int) := by omega
   have e1' : (C'.length : Int) - 1 = (k' : Int) := by omega
   have hE := wordEq w.drew ⟨g, k, none⟩ ⟨g', k', none⟩ hk hk'
   go_enter Tryz.func136, Tryz.ntmps136
   go_wp2_with fail
   go_region
   go_wp2_with fail
   go_ret
   refine ⟨_, 1, rfl, ?_, rfl⟩
   simp only [Value.ownBlock, Bool.and_eq_true, decide_eq_true_eq, Option.some.injEq, ne_eq, reduceCtorEq, not_false_eq_true, and_true, and_iff_left_iff_imp]
   intro e
   subst e
   obtain rfl := hC.inj hC'
   omega
theorem alias_any (w : World) (bx by_ : Nat) (xv yv : Value) (xs ys : List Nat) (hx : NatRow w bx xv xs) (hy : NatRow w by_ yv ys) :
  Calls Tryz.prog 136 #[xv, yv] w fun e w' => e = .returned (.bool (sameBlk xv yv)) ∧ ∃ n, w' = w.drewN n := by
 refine (alias_any0 w bx by_ xv yv xs ys hx hy).mono ?_
 rintro e w' ⟨b, n, rfl, hb, rfl⟩
 refine ⟨?_, n, rfl⟩
 have := sameBlk_iff xv yv
 congr 2
 rw [Bool.eq_iff_iff, hb, this]
end Go.Proofs.YtgamldefngehlaaGreatDoor
namespace Go.Proofs.YtgamldefngehlaaGreatDoor
open Go.RowKit
theorem midN (b o n c k h : Nat) (hk : k ≤ h) (hc : h ≤ c) (hkc : k < c) (w : World) :
  (Instr.slice 137 (.slice (some ⟨b, o, none⟩) n c) (some (.int .i64 (k : Int))) (some (.int .i64 (h : Int))) none).run Tryz.prog w = .ok (.slice (some ⟨b, o + k, none⟩) (h - k) (c - k)) w := by
 rw [run_slice_lh w 137 _ _ _ (by rw [elemN]; exact Tryz.underlying137) .i64 .i64 k h (by omega) (by omega) (by omega), elemN, sizeW]
 simp only [Result.andThen, sliced, Int.toNat_natCast, Nat.mul_one]
 simp [show ¬ c = k by omega, Addr.add_lit]
theorem tailN' (b o n c k : Nat) (hk : k ≤ n) (hc : n ≤ c) (hkc : k < c) (w : World) :
  (Instr.slice 137 (.slice (some ⟨b, o, none⟩) n c) (some (.int .i64 (k : Int))) none none).run Tryz.prog w = .ok (.slice (some ⟨b, o + k, none⟩) (n - k) (c - k)) w := by
 rw [tailN b o n c k hk w, subP_lt (by omega)]
theorem midN0 (b n c k h : Nat) (hk : k ≤ h) (hc : h ≤ c) (hkc : k < c) (w : World) :
  (Instr.slice 137 (.slice (some ⟨b, 0, none⟩) n c) (some (.int .i64 (k : Int))) (some (.int .i64 (h : Int))) none).run Tryz.prog w = .ok (.slice (some ⟨b, k, none⟩) (h - k) (c - k)) w := by
 rw [midN b 0 n c k h hk hc hkc w, Nat.zero_add]
theorem tailN0 (b n c k : Nat) (hk : k ≤ n) (hc : n ≤ c) (hkc : k < c) (w : World) :
  (Instr.slice 137 (.slice (some ⟨b, 0, none⟩) n c) (some (.int .i64 (k : Int))) none none).run Tryz.prog w = .ok (.slice (some ⟨b, k, none⟩) (n - k) (c - k)) w := by
 rw [tailN' b 0 n c k hk hc hkc w, Nat.zero_add]
theorem VecOut.rest {w w' : World} {bz oz n : Nat} {C zs : List Nat} (h : VecOut w w' bz oz C zs n) (hz : Blk w bz C) {bx ox : Nat} {xs : List Nat} (hx : Vec w bx ox xs) (ha : bx ≠ bz ∨ ox = oz) (hl : oz + n ≤ C.length) : Vec w' bx (ox + n) (xs.drop n) := fun j hj => by
 simp only [List.length_drop] at hj
 have := h.read hz hx ha hl (n + j) (by omega) (by omega)
 rw [Nat.add_assoc, this]
 simp
theorem VecOut.append {w w1 w2 : World} {g o n m : Nat} {C zs ys : List Nat} (h : VecOut w w1 g o C zs n) (h' : VecOut w1 w2 g (o + n) (over C o zs) ys m) (hl : o + n + m ≤ C.length) : VecOut w w2 g o C (zs ++ ys) (n + m) := by
 obtain ⟨rfl, h2, h3, h4⟩ := h
 obtain ⟨rfl, h2', h3', h4'⟩ := h'
 refine ⟨by simp, h2.append h2', ?_, h4.trans h4' (fun _ _ e => e)⟩
 rw [← over_over C o zs ys hl]; exact h3'
theorem Blk.row {w : World} {g : Nat} {C xs : List Nat} (h : Blk w g C) (ht : C.take xs.length = xs) (hl : xs.length ≤ C.length) : Vec w g 0 xs := by
 have := h.vec 0 xs.length (by omega)
 rwa [List.drop_zero, ht] at this
theorem Vec.keptN {w w' : World} {b o : Nat} {xs : List Nat} (h : Vec w b o xs) (hk : Keeps (fun _ => False) w w') : Vec w' b o xs := h.kept hk (fun h => h)
theorem Made.norm {w w1 w2 : World} {base n m : Nat} {zv : Value} {g N : Nat} {C zs : List Nat} (h : Made w w1 base n zv g C) (hn : 0 < n) (hz : VecOut w1 w2 g 0 C zs n) (hN : val WB zs = N)
  (hm : NatAt w2 base (.slice (some ⟨g, 0, none⟩) m C.length) N) : NatOut w w2 base zv (.slice (some ⟨g, 0, none⟩) m C.length) (digs WB N) :=
 ⟨hm, (h.out hn hz).1.keep, fun k hk => (h.out hn hz).1.own k hk⟩
theorem Made.normCall {w w1 w2 : World} {base n : Nat} {zv : Value} {g N : Nat} {C zs : List Nat} (h : Made w w1 base n zv g C) (hn : 0 < n) (hz : VecOut w1 w2 g 0 C zs n) (hN : val WB zs = N) :
  Calls Tryz.prog 249 #[.slice (some ⟨g, 0, none⟩) n C.length] w2 fun e w' => ∃ v', e = .returned v' ∧ w' = w2 ∧ NatOut w w2 base zv v' (digs WB N) := by
 obtain ⟨_, hb, hw, hl, ht⟩ := h.out hn hz
 have hf := h.fit
 have := norm_row w2 base g n (over C 0 zs) h.base hb hw (by omega) (by omega) (by rw [hl]; exact h.big)
 rw [hl, ht, hN] at this
 refine this.mono ?_
 rintro e w' ⟨m, rfl, rfl, hm, ha⟩
 exact ⟨_, rfl, rfl, h.norm hn hz hN ha⟩
theorem NatRow.form {w : World} {base : Nat} {v : Value} {xs : List Nat} (h : NatRow w base v xs) : ∃ p c, v = .slice p xs.length c := by
 rcases h with ⟨rfl, rfl⟩ | ⟨g, C, rfl, _⟩
 ·exact ⟨_, _, rfl⟩
 ·exact ⟨_, _, rfl⟩
theorem NatRow.mk' {w : World} {base : Nat} {v : Value} {xs : List Nat} (h : NatRow w base v xs) (h0 : 0 < xs.length) : ∃ g C, v = .slice (some ⟨g, 0, none⟩) xs.length C.length ∧ base ≤ g ∧ Blk w g C ∧ Words WB C ∧ C.take xs.length = xs ∧ 0 < C.length ∧ C.length ≤ 1000000 ∧ xs.length ≤ C.length := by
 rcases h with ⟨rfl, rfl⟩ | ⟨g, C, rfl, hb, hC, hw, ht, h1, h2⟩
 ·simp at h0
 ·exact ⟨g, C, rfl, hb, hC, hw, ht, h1, h2, by rw [← ht]; simp; omega⟩
theorem Blk.known {w : World} {g : Nat} {C : List Nat} (h : Blk w g C) : Known w g := ⟨_, _, h⟩
theorem VecOut.known {w w' : World} {bz oz n : Nat} {C zs : List Nat} (h : VecOut w w' bz oz C zs n) {b : Nat} (hb : Known w b) : Known w' b := by
 by_cases e : b = bz
 ·subst e; exact ⟨_, _, h.blk⟩
 ·exact hb.kept (h.keep.blk _ (by obtain ⟨_, _, x⟩ := hb; exact sizeOf_blk x) e)
theorem Keeps.known {w w' : World} (hk : Keeps (fun _ => False) w w') {b : Nat} (hb : Known w b) : Known w' b := hb.kept (hk.blk _ (by obtain ⟨_, _, x⟩ := hb; exact sizeOf_blk x) (fun h => h))
theorem add_end {B : Nat} {zs zs2 xs ys : List Nat} {n k c c2 : Nat} (hz : zs.length = n) (hz2 : zs2.length = k) (hn : n ≤ xs.length) (h1 : val B zs + B ^ n * c = val B (xs.take n) + val B ys) (h2 : val B zs2 + B ^ k * c2 = val B (xs.drop n) + c) :
  val B (zs ++ zs2 ++ [c2]) = val B xs + val B ys := by
 rw [val_snoc, val_append, hz, List.length_append, hz, hz2, Nat.pow_add, val_split xs n hn]
 have := congrArg (B ^ n * ·) h2
 simp only [Nat.mul_add] at this
 rw [Nat.mul_assoc]
 omega
set_option maxRecDepth 100000 in
set_option maxHeartbeats 1000000 in
theorem add_core (w : World) (base bx by_ : Nat) (zv xv yv : Value) (zs xs ys : List Nat) (h : NatRow w base zv zs) (hx : NatRow w bx xv xs) (hy : NatRow w by_ yv ys) (hB : base ≤ w.heap.size) (hl : xs.length ≤ 10000) (hle : ys.length ≤ xs.length)
  (hd : ys = [] → digs WB (val WB xs) = xs) :
  Calls Tryz.prog 276 #[zv, xv, yv] w fun e w' => ∃ v', e = .returned v' ∧ NatOut w w' base zv v' (digs WB (val WB xs + val WB ys)) := by
 have wx := hx.words
 have wy := hy.words
 have t0 : ¬ (xs.length : Int) < ys.length := by omega
 by_cases hx0 : xs.length = 0
 ·obtain rfl : xs = [] := List.eq_nil_of_length_eq_zero hx0
  obtain rfl : ys = [] := List.eq_nil_of_length_eq_zero (by simpa using hle)
  obtain ⟨p, n, c, rfl, h'⟩ := h.empty
  obtain ⟨px, cx, rfl⟩ := hx.form
  obtain ⟨py, cy, rfl⟩ := hy.form
  go_enter Tryz.func276, Tryz.ntmps276
  go_wp2_with fail
  go_ret
  refine ⟨_, rfl, ?_⟩
  rw [val_nil, digs_zero]
  exact .of_empty h'
 ·by_cases hy0 : ys.length = 0
  ·obtain rfl : ys = [] := List.eq_nil_of_length_eq_zero hy0
   have hS := Lib.hid (set_any w base bx zv xv zs xs h hx hB (by omega))
   obtain ⟨px, cx, rfl⟩ := hx.form
   obtain ⟨py, cy, rfl⟩ := hy.form
   have t1 : ¬ (xs.length : Int) = 0 := by omega
   rw [List.length_nil] at t0
   go_enter Tryz.func276, Tryz.ntmps276
   go_wp2_with fail
   refine hS.out.mono ?_
   rintro e w1 ⟨v', rfl, ho⟩
   go_wp2_with fail
   go_ret
   refine ⟨_, rfl, ?_⟩
   rw [val_nil, Nat.add_zero, hd (by simp)]
   exact ho
  ·obtain ⟨gx, Cx, rfl, hbx, hCx, hwx, htx, h0x, hlx, hxC⟩ := hx.mk' (by omega)
   obtain ⟨gy, Cy, rfl, hby, hCy, hwy, hty, h0y, hly, hyC⟩ := hy.mk' (by omega)
   have t1 : ¬ (xs.length : Int) = 0 := by omega
   have t2 : ¬ (ys.length : Int) = 0 := by omega
   obtain ⟨m, hm⟩ : ∃ m, xs.length = m := ⟨_, rfl⟩
   obtain ⟨n, hn⟩ : ∃ n, ys.length = n := ⟨_, rfl⟩
   have hM := make_any w base (m + 1) zv zs h (by omega) (by omega) hB
   have em : ((m + 1 : Nat) : Int) = (m : Int) + 1 := by omega
   rw [em] at hM
   have hM := Lib.hid hM
   rw [hm, hn] at hle
   rw [hm] at hxC t0 t1 hl htx hx0 ⊢
   rw [hn] at hyC t0 t2 hty hy0 ⊢
   have hvx := hCx.row (xs := xs) (by rw [hm]; exact htx) (by omega)
   have hvy := hCy.row (xs := ys) (by rw [hn]; exact hty) (by omega)
   rcases Nat.lt_or_ge n m with hlt | hge
   ·have t3 : (n : Int) < m := by omega
    go_enter Tryz.func276, Tryz.ntmps276
    go_wp2_with fail
    refine hM.out.mono ?_
    rintro e w1 ⟨g, C, rfl, hmd⟩
    have hf := hmd.fit
    have hP := Lib.hid (addVV_any w1.drew g 0 C.length gx 0 Cx.length gy 0 Cy.length n C (xs.take n) ys hmd.drew.blk ((hvx.keptN hmd.drew.keep).take n) (hvy.keptN hmd.drew.keep) (by simp; omega) hn (by omega) (.inr rfl) (.inr rfl) (wx.take n) wy (by omega))
    have t4 : (n : Int) ≤ C.length := by omega
    have t5 : (n : Int) ≤ Cx.length := by omega
    have t6 : (n : Int) ≤ Cy.length := by omega
    go_wp2_with fail
    go_still_tail 9, (by kernel_rfl)
    change wpList _ _ _ _ _ w1.drew
    go_wp2_with fail
    refine hP.out.mono ?_
    rintro e w2 ⟨z1, c1, rfl, hc1, hv1, ho1⟩
    have hr := ho1.rest hmd.drew.blk (hvx.keptN hmd.drew.keep) (.inr rfl) (by omega)
    rw [Nat.zero_add] at hr
    have hlo : (over C 0 z1).length = C.length := over_length _ _ _ (by rw [ho1.len]; omega)
    have hP2 := Lib.hid (addVW_any w2.drew g n (C.length - n) gx n (Cx.length - n) (m - n) c1 (over C 0 z1) (xs.drop n) ho1.blk hr (by simp; omega) (by omega) (.inr rfl) (wx.drop n) (by have := WB_one; omega) (by omega) (by omega) (by omega) (by omega) (ho1.known (hmd.drew.keep.known hCx.known)))
    have s1 := midN0 g (m + 1) C.length n m (by omega) (by omega) (by omega)
    have s2 := tailN0 gx m Cx.length n (by omega) (by omega) (by omega)
    go_wp2_with fail
    go_still_tail 8, (by kernel_rfl)
    change wpList _ _ _ _ _ w2.drew
    go_wp2_with fail
    refine hP2.out.mono ?_
    rintro e w3 ⟨z2, c2, rfl, hc2, hv2, ho2⟩
    have ho3 := ho1.drew.append (m := m - n) (by rw [Nat.zero_add]; exact ho2) (by omega)
    rw [show n + (m - n) = m by omega] at ho3
    have ho4 := ho3.snoc c2 (by have := WB_one; omega) (by omega)
    rw [Nat.zero_add] at ho4
    have hc := ho3.there (by omega)
    rw [Nat.zero_add] at hc
    obtain ⟨u, hc⟩ := hc
    have hfr := ho3.room m
    have hN := Lib.hid (hmd.drew.normCall (by omega) ho4 (add_end ho1.len ho2.len (by omega) hv1 hv2))
    clear ho4 ho3 ho2 ho1
    go_wp2_with fail
    refine hN.out.mono ?_
    rintro e w5 ⟨v', rfl, hw5, ho⟩
    obtain rfl := hw5.symm
    go_wp2_with fail
    go_ret
    exact ⟨_, rfl, ho⟩
   ·obtain rfl : m = n := by omega
    have t3 : ¬ (m : Int) < m := by omega
    go_enter Tryz.func276, Tryz.ntmps276
    go_wp2_with fail
    refine hM.out.mono ?_
    rintro e w1 ⟨g, C, rfl, hmd⟩
    have hf := hmd.fit
    have hP := Lib.hid (addVV_any w1.drew g 0 C.length gx 0 Cx.length gy 0 Cy.length m C xs ys hmd.drew.blk (hvx.keptN hmd.drew.keep) (hvy.keptN hmd.drew.keep) hm hn (by omega) (.inr rfl) (.inr rfl) wx wy (by omega))
    have t4 : (m : Int) ≤ C.length := by omega
    have t5 : (m : Int) ≤ Cx.length := by omega
    have t6 : (m : Int) ≤ Cy.length := by omega
    go_wp2_with fail
    go_still_tail 9, (by kernel_rfl)
    change wpList _ _ _ _ _ w1.drew
    go_wp2_with fail
    refine hP.out.mono ?_
    rintro e w2 ⟨z1, c1, rfl, hc1, hv1, ho1⟩
    have ho4 := ho1.snoc c1 (by have := WB_one; omega) (by omega)
    rw [Nat.zero_add] at ho4
    have hc := ho1.there (by omega)
    rw [Nat.zero_add] at hc
    obtain ⟨u, hc⟩ := hc
    have hfr := ho1.room m
    have hN := Lib.hid (hmd.drew.normCall (by omega) ho4 (show val WB (z1 ++ [c1]) = val WB xs + val WB ys by rw [val_snoc, ho1.len, hv1]))
    clear ho4 ho1
    go_wp2_with fail
    refine hN.out.mono ?_
    rintro e w5 ⟨v', rfl, hw5, ho⟩
    obtain rfl := hw5.symm
    go_wp2_with fail
    go_ret
    exact ⟨_, rfl, ho⟩
theorem sub_none {B D : Nat} {zs xs ys : List Nat} {n c : Nat} (hz : zs.length = n) (hw : Words B zs) (hc : c ≤ 1) (h : val B zs + val B ys = val B xs + B ^ n * c) (hle : val B ys ≤ val B xs) : c = 0 := by
 have := val_lt hw
 rw [hz] at this
 rcases (show c = 0 ∨ c = 1 by omega) with h0 | h1
 ·exact h0
 ·subst h1
  rw [Nat.mul_one] at h
  omega
theorem sub_end {B : Nat} {zs zs2 xs ys : List Nat} {n k c c2 : Nat} (hz : zs.length = n) (hz2 : zs2.length = k) (hn : n ≤ xs.length) (h1 : val B zs + val B ys = val B (xs.take n) + B ^ n * c) (h2 : val B zs2 + c = val B (xs.drop n) + B ^ k * c2) :
  val B (zs ++ zs2) + val B ys = val B xs + B ^ (n + k) * c2 := by
 rw [val_append, hz, Nat.pow_add, val_split xs n hn]
 have := congrArg (B ^ n * ·) h2
 simp only [Nat.mul_add] at this
 rw [Nat.mul_assoc]
 omega
set_option maxRecDepth 100000 in
set_option maxHeartbeats 1000000 in
theorem sub_any (w : World) (base bx by_ : Nat) (zv xv yv : Value) (zs xs ys : List Nat) (h : NatRow w base zv zs) (hx : NatRow w bx xv xs) (hy : NatRow w by_ yv ys) (hB : base ≤ w.heap.size) (hl : xs.length ≤ 10000) (hle : ys.length ≤ xs.length) (hval : val WB ys ≤ val WB xs)
  (hd : ys = [] → digs WB (val WB xs) = xs) :
  Calls Tryz.prog 277 #[zv, xv, yv] w fun e w' => ∃ v', e = .returned v' ∧ NatOut w w' base zv v' (digs WB (val WB xs - val WB ys)) := by
 have wx := hx.words
 have wy := hy.words
 have t0 : ¬ (xs.length : Int) < ys.length := by omega
 by_cases hx0 : xs.length = 0
 ·obtain rfl : xs = [] := List.eq_nil_of_length_eq_zero hx0
  obtain rfl : ys = [] := List.eq_nil_of_length_eq_zero (by simpa using hle)
  obtain ⟨p, n, c, rfl, h'⟩ := h.empty
  obtain ⟨px, cx, rfl⟩ := hx.form
  obtain ⟨py, cy, rfl⟩ := hy.form
  go_enter Tryz.func277, Tryz.ntmps277
  go_wp2_with fail
  go_ret
  refine ⟨_, rfl, ?_⟩
  rw [show digs WB 0 = [] from digs_zero]
  exact .of_empty h'
 ·by_cases hy0 : ys.length = 0
  ·obtain rfl : ys = [] := List.eq_nil_of_length_eq_zero hy0
   have hS := Lib.hid (set_any w base bx zv xv zs xs h hx hB (by omega))
   obtain ⟨px, cx, rfl⟩ := hx.form
   obtain ⟨py, cy, rfl⟩ := hy.form
   have t1 : ¬ (xs.length : Int) = 0 := by omega
   rw [List.length_nil] at t0
   go_enter Tryz.func277, Tryz.ntmps277
   go_wp2_with fail
   refine hS.out.mono ?_
   rintro e w1 ⟨v', rfl, ho⟩
   go_wp2_with fail
   go_ret
   refine ⟨_, rfl, ?_⟩
   rw [val_nil, Nat.sub_zero, hd (by simp)]
   exact ho
  ·obtain ⟨gx, Cx, rfl, hbx, hCx, hwx, htx, h0x, hlx, hxC⟩ := hx.mk' (by omega)
   obtain ⟨gy, Cy, rfl, hby, hCy, hwy, hty, h0y, hly, hyC⟩ := hy.mk' (by omega)
   have t1 : ¬ (xs.length : Int) = 0 := by omega
   have t2 : ¬ (ys.length : Int) = 0 := by omega
   obtain ⟨m, hm⟩ : ∃ m, xs.length = m := ⟨_, rfl⟩
   obtain ⟨n, hn⟩ : ∃ n, ys.length = n := ⟨_, rfl⟩
   have hM := Lib.hid (make_any w base m zv zs h (by omega) (by omega) hB)
   rw [hm, hn] at hle
   rw [hm] at hxC t0 t1 hl htx hx0 ⊢
   rw [hn] at hyC t0 t2 hty hy0 ⊢
   have hvx := hCx.row (xs := xs) (by rw [hm]; exact htx) (by omega)
   have hvy := hCy.row (xs := ys) (by rw [hn]; exact hty) (by omega)
   rcases Nat.lt_or_ge n m with hlt | hge
   ·have t3 : (n : Int) < m := by omega
    go_enter Tryz.func277, Tryz.ntmps277
    go_wp2_with fail
    refine hM.out.mono ?_
    rintro e w1 ⟨g, C, rfl, hmd⟩
    have hf := hmd.fit
    have hP := Lib.hid (subVV_any w1.drew g 0 C.length gx 0 Cx.length gy 0 Cy.length n C (xs.take n) ys hmd.drew.blk ((hvx.keptN hmd.drew.keep).take n) (hvy.keptN hmd.drew.keep) (by simp; omega) hn (by omega) (.inr rfl) (.inr rfl) (wx.take n) wy (by omega))
    have t4 : (n : Int) ≤ C.length := by omega
    have t5 : (n : Int) ≤ Cx.length := by omega
    have t6 : (n : Int) ≤ Cy.length := by omega
    go_wp2_with fail
    go_still_tail 9, (by kernel_rfl)
    change wpList _ _ _ _ _ w1.drew
    go_wp2_with fail
    refine hP.out.mono ?_
    rintro e w2 ⟨z1, c1, rfl, hc1, hv1, ho1⟩
    have hr := ho1.rest hmd.drew.blk (hvx.keptN hmd.drew.keep) (.inr rfl) (by omega)
    rw [Nat.zero_add] at hr
    have hlo : (over C 0 z1).length = C.length := over_length _ _ _ (by rw [ho1.len]; omega)
    have hP2 := Lib.hid (subVW_any w2.drew g n (C.length - n) gx n (Cx.length - n) (m - n) c1 (over C 0 z1) (xs.drop n) ho1.blk hr (by simp; omega) (by omega) (.inr rfl) (wx.drop n) (by have := WB_one; omega) (by omega) (by omega) (by omega) (by omega) (ho1.known (hmd.drew.keep.known hCx.known)))
    have s1 := tailN0 g m C.length n (by omega) (by omega) (by omega)
    have s2 := tailN0 gx m Cx.length n (by omega) (by omega) (by omega)
    go_wp2_with fail
    go_still_tail 7, (by kernel_rfl)
    change wpList _ _ _ _ _ w2.drew
    go_wp2_with fail
    refine hP2.out.mono ?_
    rintro e w3 ⟨z2, c2, rfl, hc2, hv2, ho2⟩
    have ho3 := ho1.drew.append (m := m - n) (by rw [Nat.zero_add]; exact ho2) (by omega)
    rw [show n + (m - n) = m by omega] at ho3
    have hv := sub_end ho1.len ho2.len (by omega) hv1 hv2
    rw [show n + (m - n) = m by omega] at hv
    obtain rfl := sub_none (D := 0) ho3.len ho3.words hc2 hv hval
    have hN := Lib.hid (hmd.drew.normCall (by omega) ho3 (show val WB (z1 ++ z2) = val WB xs - val WB ys by omega))
    clear ho3 ho2 ho1
    go_wp2_with fail
    refine hN.out.mono ?_
    rintro e w5 ⟨v', rfl, hw5, ho⟩
    obtain rfl := hw5.symm
    go_wp2_with fail
    go_ret
    exact ⟨_, rfl, ho⟩
   ·obtain rfl : m = n := by omega
    have t3 : ¬ (m : Int) < m := by omega
    go_enter Tryz.func277, Tryz.ntmps277
    go_wp2_with fail
    refine hM.out.mono ?_
    rintro e w1 ⟨g, C, rfl, hmd⟩
    have hf := hmd.fit
    have hP := Lib.hid (subVV_any w1.drew g 0 C.length gx 0 Cx.length gy 0 Cy.length m C xs ys hmd.drew.blk (hvx.keptN hmd.drew.keep) (hvy.keptN hmd.drew.keep) hm hn (by omega) (.inr rfl) (.inr rfl) wx wy (by omega))
    have t4 : (m : Int) ≤ C.length := by omega
    have t5 : (m : Int) ≤ Cx.length := by omega
    have t6 : (m : Int) ≤ Cy.length := by omega
    go_wp2_with fail
    go_still_tail 9, (by kernel_rfl)
    change wpList _ _ _ _ _ w1.drew
    go_wp2_with fail
    refine hP.out.mono ?_
    rintro e w2 ⟨z1, c1, rfl, hc1, hv1, ho1⟩
    obtain rfl := sub_none (D := 0) ho1.len ho1.words hc1 hv1 hval
    have hN := Lib.hid (hmd.drew.normCall (by omega) ho1 (show val WB z1 = val WB xs - val WB ys by omega))
    clear ho1
    go_wp2_with fail
    refine hN.out.mono ?_
    rintro e w5 ⟨v', rfl, hw5, ho⟩
    obtain rfl := hw5.symm
    go_wp2_with fail
    go_ret
    exact ⟨_, rfl, ho⟩
end Go.Proofs.YtgamldefngehlaaGreatDoor
namespace Go.Proofs.YtgamldefngehlaaGreatDoor
open Go.RowKit
def cmpI (a b : Nat) : Int := if a < b then -1 else if b < a then 1 else 0
theorem cmpI_lt {a b : Nat} (h : a < b) : cmpI a b = -1 := if_pos h
theorem cmpI_gt {a b : Nat} (h : b < a) : cmpI a b = 1 := by unfold cmpI; rw [if_neg (by omega), if_pos h]
theorem cmpI_eq {a b : Nat} (h : a = b) : cmpI a b = 0 := by unfold cmpI; rw [if_neg (by omega), if_neg (by omega)]
theorem drop_snoc {xs ys : List Nat} {i : Nat} (hx : i < xs.length) (hy : i < ys.length) (h : xs.drop (i + 1) = ys.drop (i + 1)) (e : xs[i] = ys[i]) : xs.drop i = ys.drop i := by
 rw [List.drop_eq_getElem_cons hx, List.drop_eq_getElem_cons hy, h, e]
set_option maxRecDepth 100000 in
set_option maxHeartbeats 1000000 in
theorem cmp_any (w : World) (bx by_ : Nat) (xv yv : Value) (a b : Nat) (hx : NatAt w bx xv a) (hy : NatAt w by_ yv b) (hl : (digs WB a).length ≤ 10000) (hl' : (digs WB b).length ≤ 10000) :
  Calls Tryz.prog 253 #[xv, yv] w fun e w' => e = .returned (.int .i64 (cmpI a b)) ∧ ∃ n, w' = w.drewN n := by
 obtain ⟨xs, hxs⟩ : ∃ xs, digs WB a = xs := ⟨_, rfl⟩
 obtain ⟨ys, hys⟩ : ∃ ys, digs WB b = ys := ⟨_, rfl⟩
 have ha := val_digs WB_one a
 have hb := val_digs WB_one b
 have wx := words_digs WB_one a
 have wy := words_digs WB_one b
 have hla : (digs WB a).length < (digs WB b).length → a < b := lt_of_digs_length WB_one
 have hlb : (digs WB b).length < (digs WB a).length → b < a := lt_of_digs_length WB_one
 unfold NatAt at hx hy
 rw [hxs] at hx hl ha wx hla hlb
 rw [hys] at hy hl' hb wy hla hlb
 by_cases hmn : xs.length = ys.length
 ·by_cases h0 : xs.length = 0
  ·obtain rfl : xs = [] := List.eq_nil_of_length_eq_zero h0
   obtain rfl : ys = [] := List.eq_nil_of_length_eq_zero (by omega)
   rw [val_nil] at ha hb
   obtain ⟨px, cx, rfl⟩ := hx.form
   obtain ⟨py, cy, rfl⟩ := hy.form
   go_enter Tryz.func253, Tryz.ntmps253
   go_wp2_with fail
   go_ret
   exact ⟨by rw [cmpI_eq (by omega)]; rfl, 0, rfl⟩
  ·obtain ⟨gx, Cx, rfl, hbx, hCx, hwx, htx, h0x, hlx, hxC⟩ := hx.mk' (by omega)
   obtain ⟨gy, Cy, rfl, hby, hCy, hwy, hty, h0y, hly, hyC⟩ := hy.mk' (by omega)
   have hvx := hCx.row (xs := xs) htx (by omega)
   have hvy := hCy.row (xs := ys) hty (by omega)
   obtain ⟨m, hm⟩ : ∃ m, xs.length = m := ⟨_, rfl⟩
   have hm' : ys.length = m := by omega
   rw [hm] at hl h0 htx hxC ⊢
   rw [hm'] at hl' hty hyC ⊢
   have t1 : ¬ (m : Int) = 0 := by omega
   have t2 : (m : Int) = m := rfl
   obtain ⟨m1, hm1⟩ : ∃ m1, m - 1 = m1 := ⟨_, rfl⟩
   have e1 : (m : Int) - 1 = (m1 : Int) := by omega
   go_enter Tryz.func253, Tryz.ntmps253
   go_wp2_with fail
   go_loopw [7] (fun i wr => ∃ k : Nat, k < m ∧ i = .int .i64 k ∧ (∃ n, wr = w.drewN n) ∧ xs.drop (k + 1) = ys.drop (k + 1)) (fun i _ => (intOf i).toNat)
   case atStart => exact ⟨m1, by omega, rfl, ⟨0, rfl⟩, by rw [List.drop_of_length_le (by omega), List.drop_of_length_le (by omega)]⟩
   case round =>
    obtain ⟨k, hk, rfl, ⟨nn, rfl⟩, hdr⟩ := hrel
    have wk := val_lt_of wx k (by omega) (by omega) hdr
    have wk' := val_lt_of wy k (by omega) (by omega) hdr.symm
    rw [ha, hb] at wk wk'
    by_cases hk0 : k = 0
    ·subst hk0
     have cx := hvx 0 (by omega)
     have cy := hvy 0 (by omega)
     rw [Nat.zero_add] at cx cy
     by_cases heq : xs[0] = ys[0]
     ·have hab : a = b := by
       rw [← ha, ← hb]
       have := drop_snoc (by omega) (by omega) hdr heq
       rw [List.drop_zero, List.drop_zero] at this
       rw [this]
      rw [heq] at cx
      generalize ys[0] = d at *
      have t3 : ¬ (d : Int) < d := by omega
      go_wp2_with fail
      go_region
      go_wp2_with fail
      go_region
      go_wp2_with fail
      go_region
      go_wp2_with fail
      go_ret
      exact ⟨by rw [cmpI_eq hab]; rfl, _, rfl⟩
     ·rcases Nat.lt_or_gt_of_ne heq with hlt | hgt
      ·have hab := wk hlt
       generalize ys[0] = d at *
       generalize xs[0] = c at *
       have t3 : (c : Int) < d := by omega
       go_wp2_with fail
       go_region
       go_wp2_with fail
       go_region
       go_wp2_with fail
       go_ret
       exact ⟨by rw [cmpI_lt hab]; rfl, _, rfl⟩
      ·have hab := wk' hgt
       generalize ys[0] = d at *
       generalize xs[0] = c at *
       have t3 : ¬ (c : Int) < d := by omega
       have t4 : (d : Int) < c := by omega
       go_wp2_with fail
       go_region
       go_wp2_with fail
       go_region
       go_wp2_with fail
       go_region
       go_wp2_with fail
       go_ret
       exact ⟨by rw [cmpI_gt hab]; rfl, _, rfl⟩
    ·have cx := hvx k (by omega)
     have cy := hvy k (by omega)
     rw [Nat.zero_add] at cx cy
     have t0 : 0 < k := by omega
     have tD : decide (0 < k) = true := by simpa using t0
     by_cases heq : xs[k] = ys[k]
     ·have hnx := drop_snoc (by omega) (by omega) hdr heq
      obtain ⟨k1, hk1⟩ : ∃ k1, k - 1 = k1 := ⟨_, rfl⟩
      have e2 : (k : Int) - 1 = (k1 : Int) := by omega
      have e2' := Lib.hid e2
      rw [heq] at cx
      generalize ys[k] = d at *
      clear hk1 e2
      go_wp2_with fail
      go_region
      have e2 := e2'.out
      go_wp2_with fail
      go_roundw
      case rel => exact ⟨k1, by have := e2'.out; omega, by go_num, ⟨_, rfl⟩, by rw [show k1 + 1 = k by have := e2'.out; omega]; exact hnx⟩
      case measure => have := e2'.out; simp [intOf]; omega
     ·rcases Nat.lt_or_gt_of_ne heq with hlt | hgt
      ·have hab := wk hlt
       generalize ys[k] = d at *
       generalize xs[k] = c at *
       have t3 : (c : Int) < d := by omega
       have t5 : ¬ (c : Int) = d := by omega
       go_wp2_with fail
       go_region
       go_wp2_with fail
       go_region
       go_wp2_with fail
       go_ret
       exact ⟨by rw [cmpI_lt hab]; rfl, _, rfl⟩
      ·have hab := wk' hgt
       generalize ys[k] = d at *
       generalize xs[k] = c at *
       have t3 : ¬ (c : Int) < d := by omega
       have t4 : (d : Int) < c := by omega
       have t5 : ¬ (c : Int) = d := by omega
       go_wp2_with fail
       go_region
       go_wp2_with fail
       go_region
       go_wp2_with fail
       go_region
       go_wp2_with fail
       go_ret
       exact ⟨by rw [cmpI_gt hab]; rfl, _, rfl⟩
 ·obtain ⟨px, cx, rfl⟩ := hx.form
  obtain ⟨py, cy, rfl⟩ := hy.form
  have t1 : ¬ (xs.length : Int) = ys.length := by omega
  rcases Nat.lt_or_gt_of_ne hmn with hlt | hgt
  ·have hab := hla hlt
   have t2 : (xs.length : Int) < ys.length := by omega
   go_enter Tryz.func253, Tryz.ntmps253
   go_wp2_with fail
   go_ret
   exact ⟨by rw [cmpI_lt hab]; rfl, 0, rfl⟩
  ·have hab := hlb hgt
   have t2 : ¬ (xs.length : Int) < ys.length := by omega
   have t3 : (ys.length : Int) < xs.length := by omega
   go_enter Tryz.func253, Tryz.ntmps253
   go_wp2_with fail
   go_ret
   exact ⟨by rw [cmpI_gt hab]; rfl, 0, rfl⟩
end Go.Proofs.YtgamldefngehlaaGreatDoor
