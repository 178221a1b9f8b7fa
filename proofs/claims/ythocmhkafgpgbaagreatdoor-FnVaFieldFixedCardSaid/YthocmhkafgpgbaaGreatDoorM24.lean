/- Parts of the walk. -/
import Derived.Test.YthocmhkafgpgbaaGreatDoorM02
import Derived.Test.YthocmhkafgpgbaaGreatDoorM23
set_option linter.unusedVariables false
set_option linter.unusedSimpArgs false
namespace Go.Proofs.YthocmhkafgpgbaaGreatDoor
open Go.RowKit
def RatVal (w : World) (s : Bool) (n d : Nat) (v : Array Value) (B : Nat) (W : World) : Prop :=
 ∃ b p c b' p' c' : Nat, v = ratVal s (.slice (some ⟨b, p, none⟩) (beB n).length c) (.slice (some ⟨b', p', none⟩) (beB d).length c') ∧ (beB n).length ≤ c ∧ VecB W b p (beB n) ∧ w.heap.size + 3 ≤ b ∧ (0 < (beB n).length → b < B) ∧ (beB d).length ≤ c' ∧ VecB W b' p' (beB d) ∧ w.heap.size + 3 ≤ b' ∧ (0 < (beB d).length → b' < B)
theorem RatVal.stays {w W W' : World} {s : Bool} {n d B : Nat} {v : Array Value} (h : RatVal w s n d v B W) (hs : Stays w 3 B W W') : RatVal w s n d v B W' := by
 obtain ⟨b, p, c, b', p', c', rfl, h1, h2, h3, h4, h5, h6, h7, h8⟩ := h
 exact ⟨b, p, c, b', p', c', rfl, h1, fun j hj => (World.cell?_of_block (hs.blk b (h4 (by omega)) (.inr h3))).trans (h2 j hj), h3, h4, h5, fun j hj => (World.cell?_of_block (hs.blk b' (h8 (by omega)) (.inr h7))).trans (h6 j hj), h7, h8⟩
theorem vecB_lt {w : World} {b p : Nat} {xs : List Nat} (h : VecB w b p xs) (h0 : 0 < xs.length) : b < w.heap.size := by
 have := h 0 h0
 unfold World.cell? at this
 cases hh : w.heap[b]? with
 | none => simp [hh] at this
 | some o => exact (Array.getElem?_eq_some_iff.1 hh).1
theorem digs_len_le {n m : Nat} (h : n ≤ m) : (digs WB n).length ≤ (digs WB m).length := (digs_length_le WB_one).2 (Nat.lt_of_le_of_lt h ((digs_length_le WB_one).1 (Nat.le_refl _)))
theorem roFixed8 (w : World) (N sc : Nat) (s : Bool) (hN : N < 256 ^ (7)) (hsc : sc ≤ 15) (hg : Thr w) (hGL : GL ≤ w.heap.size) (rb ro c : Nat) (hin : Input w rb ro (9) c (1 :: leB (zOf s N) 8)) (hrb : rb < w.heap.size) :
  Calls Tryz.prog 10 #[.int .i64 81, .slice (some ⟨rb, ro, none⟩) (9 : Nat) c, .int .i64 sc, .bool false, .bool false] w fun e w' =>
   ∃ v B, e = .returned (.tuple #[.agg v, .int .i64 (9 : Nat), .int .i64 0]) ∧ RatVal w (decide (N ≠ 0) && s) (N / Nat.gcd N (10 ^ sc)) (10 ^ sc / Nat.gcd N (10 ^ sc)) v B w' ∧ Below w.heap.size w w' := by
 have hP0 : 0 < 10 ^ sc := Nat.pow_pos (by omega)
 have hG0 : 0 < Nat.gcd N (10 ^ sc) := Nat.gcd_pos_of_pos_right _ hP0
 have hd0 : 10 ^ sc / Nat.gcd N (10 ^ sc) ≠ 0 := by
  have := Nat.div_pos (Nat.gcd_le_right N hP0) hG0
  omega
 have hn0 : N ≠ 0 → N / Nat.gcd N (10 ^ sc) ≠ 0 := fun h => by
  have := Nat.div_pos (Nat.gcd_le_left (10 ^ sc) (Nat.pos_of_ne_zero h)) hG0
  omega
 have hl1 : (digs WB (N / Nat.gcd N (10 ^ sc))).length ≤ 2 := Nat.le_trans (digs_len_le (Nat.div_le_self _ _)) ((digs_length_le WB_one).2 (Nat.lt_trans hN (by rw [WB_eq]; decide)))
 have hl2 : (digs WB (10 ^ sc / Nat.gcd N (10 ^ sc))).length ≤ 1 := Nat.le_trans (digs_len_le (Nat.div_le_self _ _)) ((digs_length_le WB_one).2 (by rw [Nat.pow_one, WB_eq]; exact Nat.lt_of_le_of_lt (Nat.pow_le_pow_right (by omega) hsc) (by omega)))
 refine (roCoreT w 81 sc (9) rb ro (9) c false false (1 :: leB (zOf s N) 8) hin hrb (by decide) (by omega) (by omega) (by decide) (by decide) (fun x B W => ∃ g v u b, x = .iface 98 (.pointer (some ⟨g, 0, none⟩)) ∧ RatAt W b g (decide (N ≠ 0) && s) false v u (N / Nat.gcd N (10 ^ sc)) (10 ^ sc / Nat.gcd N (10 ^ sc))) (fun v B W => RatVal w (decide (N ≠ 0) && s) (N / Nat.gcd N (10 ^ sc)) (10 ^ sc / Nat.gcd N (10 ^ sc)) v B W) ?_ ?_ (fun _ _ _ _ h hs => h.stays hs)).mono ?_
 ·intro W base D S tr _ hrb' hbW hbs hD hin'
  have hbw : base ≤ W.heap.size := by have h1 := hD.lo.1; have h2 := sizeOf_blk hD.dec; omega
  refine (zzResultOf_any W _ _ _ (fun x y w' => (∃ g v u b, x = .iface 98 (.pointer (some ⟨g, 0, none⟩)) ∧ RatAt w' b g (decide (N ≠ 0) && s) false v u (N / Nat.gcd N (10 ^ sc)) (10 ^ sc / Nat.gcd N (10 ^ sc))) ∧ y = .nilIface ∧ DecAt w' base D S rb ro (9) c tr false false (9) ∧ Below base W w')
   ((resFixed8 W base D S rb ro (9) c tr false false _ N sc s rfl (by simp [List.take_of_length_le]) hN hsc (hg.below hbW hGL) (by omega) hbw (Nat.le_refl _) hrb' hD hin').mono fun e w' ⟨x, y, h1, ⟨g, v, u, b, h2, h3, h4, h5⟩, h6, h7, h8⟩ => ⟨x, y, h1, ⟨g, v, u, b, h2, h3⟩, h6, h7, h8⟩)).mono ?_
  rintro e w' ⟨x, y, h1, h2, h3, h4, h5⟩
  exact ⟨x, y, h1, h3, h2, h4, h5⟩
 ·rintro W B x ⟨g, v, u, b, rfl, hr⟩ hB hz
  refine (valOf7 W b g _ _ _ v u hr (fun h => hn0 (by have := h; simp at this; exact this.1)) hd0 (by omega) (by omega)).mono ?_
  rintro e w' ⟨b1, p1, c1, b2, p2, c2, rfl, h1, h2, h3, h4, h5, h6, h7⟩
  exact ⟨_, rfl, rfl, rat1 _ _ _ _ _ _ _, ⟨b1, p1, c1, b2, p2, c2, rfl, h1, h2, by omega, fun h => vecB_lt h2 h, h4, h5, by omega, fun h => vecB_lt h5 h⟩, h7⟩
 ·rintro e w' ⟨v, B, rfl, _, hv, _, hb⟩
  exact ⟨v, B, rfl, hv, hb⟩
theorem roFixed12 (w : World) (N sc : Nat) (s : Bool) (hN : N < 256 ^ (11)) (hsc : sc ≤ 15) (hg : Thr w) (hGL : GL ≤ w.heap.size) (rb ro c : Nat) (hin : Input w rb ro (13) c (1 :: leB (zOf s N) 12)) (hrb : rb < w.heap.size) :
  Calls Tryz.prog 10 #[.int .i64 82, .slice (some ⟨rb, ro, none⟩) (13 : Nat) c, .int .i64 sc, .bool false, .bool false] w fun e w' =>
   ∃ v B, e = .returned (.tuple #[.agg v, .int .i64 (13 : Nat), .int .i64 0]) ∧ RatVal w (decide (N ≠ 0) && s) (N / Nat.gcd N (10 ^ sc)) (10 ^ sc / Nat.gcd N (10 ^ sc)) v B w' ∧ Below w.heap.size w w' := by
 have hP0 : 0 < 10 ^ sc := Nat.pow_pos (by omega)
 have hG0 : 0 < Nat.gcd N (10 ^ sc) := Nat.gcd_pos_of_pos_right _ hP0
 have hd0 : 10 ^ sc / Nat.gcd N (10 ^ sc) ≠ 0 := by
  have := Nat.div_pos (Nat.gcd_le_right N hP0) hG0
  omega
 have hn0 : N ≠ 0 → N / Nat.gcd N (10 ^ sc) ≠ 0 := fun h => by
  have := Nat.div_pos (Nat.gcd_le_left (10 ^ sc) (Nat.pos_of_ne_zero h)) hG0
  omega
 have hl1 : (digs WB (N / Nat.gcd N (10 ^ sc))).length ≤ 2 := Nat.le_trans (digs_len_le (Nat.div_le_self _ _)) ((digs_length_le WB_one).2 (Nat.lt_trans hN (by rw [WB_eq]; decide)))
 have hl2 : (digs WB (10 ^ sc / Nat.gcd N (10 ^ sc))).length ≤ 1 := Nat.le_trans (digs_len_le (Nat.div_le_self _ _)) ((digs_length_le WB_one).2 (by rw [Nat.pow_one, WB_eq]; exact Nat.lt_of_le_of_lt (Nat.pow_le_pow_right (by omega) hsc) (by omega)))
 refine (roCoreT w 82 sc (13) rb ro (13) c false false (1 :: leB (zOf s N) 12) hin hrb (by decide) (by omega) (by omega) (by decide) (by decide) (fun x B W => ∃ g v u b, x = .iface 98 (.pointer (some ⟨g, 0, none⟩)) ∧ RatAt W b g (decide (N ≠ 0) && s) false v u (N / Nat.gcd N (10 ^ sc)) (10 ^ sc / Nat.gcd N (10 ^ sc))) (fun v B W => RatVal w (decide (N ≠ 0) && s) (N / Nat.gcd N (10 ^ sc)) (10 ^ sc / Nat.gcd N (10 ^ sc)) v B W) ?_ ?_ (fun _ _ _ _ h hs => h.stays hs)).mono ?_
 ·intro W base D S tr _ hrb' hbW hbs hD hin'
  have hbw : base ≤ W.heap.size := by have h1 := hD.lo.1; have h2 := sizeOf_blk hD.dec; omega
  refine (zzResultOf_any W _ _ _ (fun x y w' => (∃ g v u b, x = .iface 98 (.pointer (some ⟨g, 0, none⟩)) ∧ RatAt w' b g (decide (N ≠ 0) && s) false v u (N / Nat.gcd N (10 ^ sc)) (10 ^ sc / Nat.gcd N (10 ^ sc))) ∧ y = .nilIface ∧ DecAt w' base D S rb ro (13) c tr false false (13) ∧ Below base W w')
   ((resFixed12 W base D S rb ro (13) c tr false false _ N sc s rfl (by simp [List.take_of_length_le]) hN hsc (hg.below hbW hGL) (by omega) hbw (Nat.le_refl _) hrb' hD hin').mono fun e w' ⟨x, y, h1, ⟨g, v, u, b, h2, h3, h4, h5⟩, h6, h7, h8⟩ => ⟨x, y, h1, ⟨g, v, u, b, h2, h3⟩, h6, h7, h8⟩)).mono ?_
  rintro e w' ⟨x, y, h1, h2, h3, h4, h5⟩
  exact ⟨x, y, h1, h3, h2, h4, h5⟩
 ·rintro W B x ⟨g, v, u, b, rfl, hr⟩ hB hz
  refine (valOf7 W b g _ _ _ v u hr (fun h => hn0 (by have := h; simp at this; exact this.1)) hd0 (by omega) (by omega)).mono ?_
  rintro e w' ⟨b1, p1, c1, b2, p2, c2, rfl, h1, h2, h3, h4, h5, h6, h7⟩
  exact ⟨_, rfl, rfl, rat1 _ _ _ _ _ _ _, ⟨b1, p1, c1, b2, p2, c2, rfl, h1, h2, by omega, fun h => vecB_lt h2 h, h4, h5, by omega, fun h => vecB_lt h5 h⟩, h7⟩
 ·rintro e w' ⟨v, B, rfl, _, hv, _, hb⟩
  exact ⟨v, B, rfl, hv, hb⟩
theorem roFixed16 (w : World) (N sc : Nat) (s : Bool) (hN : N < 256 ^ (15)) (hsc : sc ≤ 15) (hg : Thr w) (hGL : GL ≤ w.heap.size) (rb ro c : Nat) (hin : Input w rb ro (17) c (1 :: leB (zOf s N) 16)) (hrb : rb < w.heap.size) :
  Calls Tryz.prog 10 #[.int .i64 76, .slice (some ⟨rb, ro, none⟩) (17 : Nat) c, .int .i64 sc, .bool false, .bool false] w fun e w' =>
   ∃ v B, e = .returned (.tuple #[.agg v, .int .i64 (17 : Nat), .int .i64 0]) ∧ RatVal w (decide (N ≠ 0) && s) (N / Nat.gcd N (10 ^ sc)) (10 ^ sc / Nat.gcd N (10 ^ sc)) v B w' ∧ Below w.heap.size w w' := by
 have hP0 : 0 < 10 ^ sc := Nat.pow_pos (by omega)
 have hG0 : 0 < Nat.gcd N (10 ^ sc) := Nat.gcd_pos_of_pos_right _ hP0
 have hd0 : 10 ^ sc / Nat.gcd N (10 ^ sc) ≠ 0 := by
  have := Nat.div_pos (Nat.gcd_le_right N hP0) hG0
  omega
 have hn0 : N ≠ 0 → N / Nat.gcd N (10 ^ sc) ≠ 0 := fun h => by
  have := Nat.div_pos (Nat.gcd_le_left (10 ^ sc) (Nat.pos_of_ne_zero h)) hG0
  omega
 have hl1 : (digs WB (N / Nat.gcd N (10 ^ sc))).length ≤ 2 := Nat.le_trans (digs_len_le (Nat.div_le_self _ _)) ((digs_length_le WB_one).2 (Nat.lt_trans hN (by rw [WB_eq]; decide)))
 have hl2 : (digs WB (10 ^ sc / Nat.gcd N (10 ^ sc))).length ≤ 1 := Nat.le_trans (digs_len_le (Nat.div_le_self _ _)) ((digs_length_le WB_one).2 (by rw [Nat.pow_one, WB_eq]; exact Nat.lt_of_le_of_lt (Nat.pow_le_pow_right (by omega) hsc) (by omega)))
 refine (roCoreT w 76 sc (17) rb ro (17) c false false (1 :: leB (zOf s N) 16) hin hrb (by decide) (by omega) (by omega) (by decide) (by decide) (fun x B W => ∃ g v u b, x = .iface 98 (.pointer (some ⟨g, 0, none⟩)) ∧ RatAt W b g (decide (N ≠ 0) && s) false v u (N / Nat.gcd N (10 ^ sc)) (10 ^ sc / Nat.gcd N (10 ^ sc))) (fun v B W => RatVal w (decide (N ≠ 0) && s) (N / Nat.gcd N (10 ^ sc)) (10 ^ sc / Nat.gcd N (10 ^ sc)) v B W) ?_ ?_ (fun _ _ _ _ h hs => h.stays hs)).mono ?_
 ·intro W base D S tr _ hrb' hbW hbs hD hin'
  have hbw : base ≤ W.heap.size := by have h1 := hD.lo.1; have h2 := sizeOf_blk hD.dec; omega
  refine (zzResultOf_any W _ _ _ (fun x y w' => (∃ g v u b, x = .iface 98 (.pointer (some ⟨g, 0, none⟩)) ∧ RatAt w' b g (decide (N ≠ 0) && s) false v u (N / Nat.gcd N (10 ^ sc)) (10 ^ sc / Nat.gcd N (10 ^ sc))) ∧ y = .nilIface ∧ DecAt w' base D S rb ro (17) c tr false false (17) ∧ Below base W w')
   ((resFixed16 W base D S rb ro (17) c tr false false _ N sc s rfl (by simp [List.take_of_length_le]) hN hsc (hg.below hbW hGL) (by omega) hbw (Nat.le_refl _) hrb' hD hin').mono fun e w' ⟨x, y, h1, ⟨g, v, u, b, h2, h3, h4, h5⟩, h6, h7, h8⟩ => ⟨x, y, h1, ⟨g, v, u, b, h2, h3⟩, h6, h7, h8⟩)).mono ?_
  rintro e w' ⟨x, y, h1, h2, h3, h4, h5⟩
  exact ⟨x, y, h1, h3, h2, h4, h5⟩
 ·rintro W B x ⟨g, v, u, b, rfl, hr⟩ hB hz
  refine (valOf7 W b g _ _ _ v u hr (fun h => hn0 (by have := h; simp at this; exact this.1)) hd0 (by omega) (by omega)).mono ?_
  rintro e w' ⟨b1, p1, c1, b2, p2, c2, rfl, h1, h2, h3, h4, h5, h6, h7⟩
  exact ⟨_, rfl, rfl, rat1 _ _ _ _ _ _ _, ⟨b1, p1, c1, b2, p2, c2, rfl, h1, h2, by omega, fun h => vecB_lt h2 h, h4, h5, by omega, fun h => vecB_lt h5 h⟩, h7⟩
 ·rintro e w' ⟨v, B, rfl, _, hv, _, hb⟩
  exact ⟨v, B, rfl, hv, hb⟩
end Go.Proofs.YthocmhkafgpgbaaGreatDoor
namespace Go.Proofs.YthocmhkafgpgbaaGreatDoor
open Go.RowKit
theorem BytesIn.below {w w' : World} {B : Nat} {v : Value} {xs : List Nat} (h : BytesIn w v xs) (hb : Below B w w') (hB : B = w.heap.size) : BytesIn w' v xs :=
 h.kept ⟨hb.os, hb.tape, hb.output, hb.size, fun k hk _ => hb.block k (by omega)⟩
theorem fbVal8 (w : World) (neg : Bool) (v u : Value) (xs ys : List Nat) (N sc : Nat) (h : BytesIn w v xs) (hd : BytesIn w u ys) (hn : xs.length ≤ 400) (hm : ys.length ≤ 400) (hy : beVal ys ≠ 0) (hyW : beVal ys < WB)
  (hlx : (digs WB (beVal xs)).length < 40) (hsc : sc ≤ 15) (heq : beVal xs / Nat.gcd (beVal xs) (beVal ys) * 10 ^ sc = N * (beVal ys / Nat.gcd (beVal xs) (beVal ys))) (hle : (digs WB (beVal xs / Nat.gcd (beVal xs) (beVal ys) * 10 ^ sc)).length ≤ 1000) (hlt : N < 256 ^ (7)) (hg : Thr w) (hGL : GL ≤ w.heap.size) :
  Calls Tryz.prog 8 #[.int .i64 81, .agg (ratVal neg v u), .int .i64 38, .int .i64 sc] w fun e w' =>
   ∃ r, e = .returned (.tuple #[r, .int .i64 8, .int .i64 0]) ∧ w'.ownsRow w.heap.size 5 1 r ([81] ++ leB (zOf (neg && decide (beVal xs ≠ 0)) N) 8).length (u8s ([81] ++ leB (zOf (neg && decide (beVal xs ≠ 0)) N) 8)) ∧ Below w.heap.size w w' := by
 have hG0 : 0 < Nat.gcd (beVal xs) (beVal ys) := Nat.gcd_pos_of_pos_right _ (Nat.pos_of_ne_zero hy)
 have hd0 : beVal ys / Nat.gcd (beVal xs) (beVal ys) ≠ 0 := by
  have := Nat.div_pos (Nat.gcd_le_right (beVal xs) (Nat.pos_of_ne_zero hy)) hG0
  omega
 have hly : (digs WB (beVal ys)).length ≤ 1 := (digs_length_le WB_one).2 (by rw [Nat.pow_one]; exact hyW)
 refine fbFixed8 w (beVal xs / Nat.gcd (beVal xs) (beVal ys)) (beVal ys / Nat.gcd (beVal xs) (beVal ys)) N sc (neg && decide (beVal xs ≠ 0)) (ratVal neg v u) rfl hsc ?_
 intro W hW hz
 refine (anyOf7 W false 0 0 (.slice none 0 0) ⟨#[]⟩ neg v u xs ys (h.below hW rfl) (hd.below hW rfl) hn hm hy (.inr hyW) (by omega) (by omega)).mono ?_
 rintro e w' ⟨g, v', u', rfl, hq⟩
 have hs := hq.keep.size
 have hbl : Below W.heap.size W w' := hq.keep.below (Nat.le_refl _) (fun _ _ h => h.elim)
 refine ⟨_, rfl, ⟨W.heap.size, g, v', u', rfl, ⟨hq.at_, hsc, hd0, Nat.lt_of_le_of_lt (Nat.div_le_self _ _) hyW, heq, Nat.lt_of_le_of_lt (digs_len_le (Nat.div_le_self _ _)) hlx, hle, hlt⟩, (hg.below hW hGL).below hbl (by omega), hGL, by omega, fun k hk => ?_⟩, hbl⟩
 rcases hk with rfl | hk | hk
 ·exact ⟨by have := hq.ge; omega, hq.at_.num.known.lt⟩
 ·have := NatRow.lt hq.at_.num.nat k hk; omega
 ·have := NatRow.lt hq.at_.den.nat k hk; omega
theorem fbVal12 (w : World) (neg : Bool) (v u : Value) (xs ys : List Nat) (N sc : Nat) (h : BytesIn w v xs) (hd : BytesIn w u ys) (hn : xs.length ≤ 400) (hm : ys.length ≤ 400) (hy : beVal ys ≠ 0) (hyW : beVal ys < WB)
  (hlx : (digs WB (beVal xs)).length < 40) (hsc : sc ≤ 15) (heq : beVal xs / Nat.gcd (beVal xs) (beVal ys) * 10 ^ sc = N * (beVal ys / Nat.gcd (beVal xs) (beVal ys))) (hle : (digs WB (beVal xs / Nat.gcd (beVal xs) (beVal ys) * 10 ^ sc)).length ≤ 1000) (hlt : N < 256 ^ (11)) (hg : Thr w) (hGL : GL ≤ w.heap.size) :
  Calls Tryz.prog 8 #[.int .i64 82, .agg (ratVal neg v u), .int .i64 38, .int .i64 sc] w fun e w' =>
   ∃ r, e = .returned (.tuple #[r, .int .i64 12, .int .i64 0]) ∧ w'.ownsRow w.heap.size 5 1 r ([82] ++ leB (zOf (neg && decide (beVal xs ≠ 0)) N) 12).length (u8s ([82] ++ leB (zOf (neg && decide (beVal xs ≠ 0)) N) 12)) ∧ Below w.heap.size w w' := by
 have hG0 : 0 < Nat.gcd (beVal xs) (beVal ys) := Nat.gcd_pos_of_pos_right _ (Nat.pos_of_ne_zero hy)
 have hd0 : beVal ys / Nat.gcd (beVal xs) (beVal ys) ≠ 0 := by
  have := Nat.div_pos (Nat.gcd_le_right (beVal xs) (Nat.pos_of_ne_zero hy)) hG0
  omega
 have hly : (digs WB (beVal ys)).length ≤ 1 := (digs_length_le WB_one).2 (by rw [Nat.pow_one]; exact hyW)
 refine fbFixed12 w (beVal xs / Nat.gcd (beVal xs) (beVal ys)) (beVal ys / Nat.gcd (beVal xs) (beVal ys)) N sc (neg && decide (beVal xs ≠ 0)) (ratVal neg v u) rfl hsc ?_
 intro W hW hz
 refine (anyOf7 W false 0 0 (.slice none 0 0) ⟨#[]⟩ neg v u xs ys (h.below hW rfl) (hd.below hW rfl) hn hm hy (.inr hyW) (by omega) (by omega)).mono ?_
 rintro e w' ⟨g, v', u', rfl, hq⟩
 have hs := hq.keep.size
 have hbl : Below W.heap.size W w' := hq.keep.below (Nat.le_refl _) (fun _ _ h => h.elim)
 refine ⟨_, rfl, ⟨W.heap.size, g, v', u', rfl, ⟨hq.at_, hsc, hd0, Nat.lt_of_le_of_lt (Nat.div_le_self _ _) hyW, heq, Nat.lt_of_le_of_lt (digs_len_le (Nat.div_le_self _ _)) hlx, hle, hlt⟩, (hg.below hW hGL).below hbl (by omega), hGL, by omega, fun k hk => ?_⟩, hbl⟩
 rcases hk with rfl | hk | hk
 ·exact ⟨by have := hq.ge; omega, hq.at_.num.known.lt⟩
 ·have := NatRow.lt hq.at_.num.nat k hk; omega
 ·have := NatRow.lt hq.at_.den.nat k hk; omega
theorem fbVal16 (w : World) (neg : Bool) (v u : Value) (xs ys : List Nat) (N sc : Nat) (h : BytesIn w v xs) (hd : BytesIn w u ys) (hn : xs.length ≤ 400) (hm : ys.length ≤ 400) (hy : beVal ys ≠ 0) (hyW : beVal ys < WB)
  (hlx : (digs WB (beVal xs)).length < 40) (hsc : sc ≤ 15) (heq : beVal xs / Nat.gcd (beVal xs) (beVal ys) * 10 ^ sc = N * (beVal ys / Nat.gcd (beVal xs) (beVal ys))) (hle : (digs WB (beVal xs / Nat.gcd (beVal xs) (beVal ys) * 10 ^ sc)).length ≤ 1000) (hlt : N < 256 ^ (15)) (hg : Thr w) (hGL : GL ≤ w.heap.size) :
  Calls Tryz.prog 8 #[.int .i64 76, .agg (ratVal neg v u), .int .i64 38, .int .i64 sc] w fun e w' =>
   ∃ r, e = .returned (.tuple #[r, .int .i64 16, .int .i64 0]) ∧ w'.ownsRow w.heap.size 5 1 r ([76] ++ leB (zOf (neg && decide (beVal xs ≠ 0)) N) 16).length (u8s ([76] ++ leB (zOf (neg && decide (beVal xs ≠ 0)) N) 16)) ∧ Below w.heap.size w w' := by
 have hG0 : 0 < Nat.gcd (beVal xs) (beVal ys) := Nat.gcd_pos_of_pos_right _ (Nat.pos_of_ne_zero hy)
 have hd0 : beVal ys / Nat.gcd (beVal xs) (beVal ys) ≠ 0 := by
  have := Nat.div_pos (Nat.gcd_le_right (beVal xs) (Nat.pos_of_ne_zero hy)) hG0
  omega
 have hly : (digs WB (beVal ys)).length ≤ 1 := (digs_length_le WB_one).2 (by rw [Nat.pow_one]; exact hyW)
 refine fbFixed16 w (beVal xs / Nat.gcd (beVal xs) (beVal ys)) (beVal ys / Nat.gcd (beVal xs) (beVal ys)) N sc (neg && decide (beVal xs ≠ 0)) (ratVal neg v u) rfl hsc ?_
 intro W hW hz
 refine (anyOf7 W false 0 0 (.slice none 0 0) ⟨#[]⟩ neg v u xs ys (h.below hW rfl) (hd.below hW rfl) hn hm hy (.inr hyW) (by omega) (by omega)).mono ?_
 rintro e w' ⟨g, v', u', rfl, hq⟩
 have hs := hq.keep.size
 have hbl : Below W.heap.size W w' := hq.keep.below (Nat.le_refl _) (fun _ _ h => h.elim)
 refine ⟨_, rfl, ⟨W.heap.size, g, v', u', rfl, ⟨hq.at_, hsc, hd0, Nat.lt_of_le_of_lt (Nat.div_le_self _ _) hyW, heq, Nat.lt_of_le_of_lt (digs_len_le (Nat.div_le_self _ _)) hlx, hle, hlt⟩, (hg.below hW hGL).below hbl (by omega), hGL, by omega, fun k hk => ?_⟩, hbl⟩
 rcases hk with rfl | hk | hk
 ·exact ⟨by have := hq.ge; omega, hq.at_.num.known.lt⟩
 ·have := NatRow.lt hq.at_.num.nat k hk; omega
 ·have := NatRow.lt hq.at_.den.nat k hk; omega
end Go.Proofs.YthocmhkafgpgbaaGreatDoor
namespace Go.Proofs.YthocmhkafgpgbaaGreatDoor
theorem beVal_rev : ∀ xs : List Nat, beVal xs.reverse = val 256 xs
 | [] => rfl
 | x :: xs => by rw [List.reverse_cons, beVal_append, beVal_rev xs]; simp [beVal, val]; omega
theorem beB_digs (a : Nat) : beB a = (digs 256 a).reverse := by
 have h1 : val 256 (beB a).reverse = a := by rw [← beVal_rev, List.reverse_reverse, beB_val]
 have h2 : digs 256 (val 256 (beB a).reverse) = (beB a).reverse := by
  refine digs_val (by omega) (fun x hx => beB_lt a x (by simpa using hx)) (fun hne => ?_)
  rw [List.getLast_reverse]
  intro h0
  have hne' : beB a ≠ [] := by simpa using hne
  have := List.head_dropWhile_not (fun x : Nat => x == 0) hne'
  have h3 : ((beB a).head hne' == 0) = false := this
  rw [show (beB a).head hne' = 0 from h0] at h3
  simp at h3
 rw [h1] at h2
 rw [h2, List.reverse_reverse]
theorem beB_length (a : Nat) : (beB a).length = (digs 256 a).length := by rw [beB_digs, List.length_reverse]
theorem beB_of {xs : List Nat} (hb : ∀ x ∈ xs, x < 256) (h0 : xs = [] ∨ xs.getD 0 0 ≠ 0) : xs = beB (beVal xs) := by
 have h1 : val 256 xs.reverse = beVal xs := by rw [← beVal_rev, List.reverse_reverse]
 rw [beB_digs, ← h1, digs_val (by omega) (fun x hx => hb x (by simpa using hx)) (fun hne => ?_), List.reverse_reverse]
 rw [List.getLast_reverse]
 cases xs with
 | nil => simp at hne
 | cons x xs => simpa using h0
theorem leB_add (k : Nat) : ∀ z c : Int, leB (z + 256 ^ k * c) k = leB z k := by
 induction k with
 | zero => intro z c; rfl
 | succ k ih =>
  intro z c
  have e : z + 256 ^ (k + 1) * c = z + 256 * (256 ^ k * c) := by rw [Int.pow_succ, Int.mul_comm (256 ^ k) 256, Int.mul_assoc]
  rw [e]
  simp only [leB]
  rw [show (z + 256 * (256 ^ k * c)) % 256 = z % 256 by omega, show (z + 256 * (256 ^ k * c)) / 256 = z / 256 + 256 ^ k * c by omega, ih]
theorem leB_nat_get (n k j : Nat) (h : j < k) : (leB (n : Int) k).getD j 0 = ((n / 256 ^ j % 256 : Nat) : Int) := by
 rw [List.getD_eq_getElem?_getD, List.getElem?_eq_getElem (by simpa using h), Option.getD_some, leB_get]
 simp
theorem leB_ext {n k : Nat} {xs : List Int} (hl : xs.length = k) (h : ∀ j, j < k → xs.getD j 0 = ((n / 256 ^ j % 256 : Nat) : Int)) : xs = leB (n : Int) k := by
 refine List.ext_getElem (by simp [hl]) (fun j h1 h2 => ?_)
 have := h j (by omega)
 rw [← leB_nat_get n k j (by omega)] at this
 simpa [List.getD_eq_getElem?_getD, List.getElem?_eq_getElem h1, List.getElem?_eq_getElem h2] using this
theorem pow_ge {n k : Nat} (h : n < 256 ^ (k - 1)) (hk : 1 ≤ k) : n < 2 ^ (8 * k - 1) := by
 refine Nat.lt_of_lt_of_le h ?_
 rw [show (256 : Nat) = 2 ^ 8 by rfl, ← Nat.pow_mul]
 exact Nat.pow_le_pow_right (by omega) (by omega)
theorem two_256 (k : Nat) : 2 ^ (8 * k) = 256 ^ k := by rw [Nat.pow_mul]
theorem leB_neg {n k : Nat} (h : n ≤ 256 ^ k) : leB ((256 ^ k - n : Nat) : Int) k = leB (-(n : Int)) k := by
 rw [← leB_add k (-(n : Int)) 1]
 congr 1
 rw [Int.natCast_sub h]
 have : ((256 ^ k : Nat) : Int) = (256 : Int) ^ k := by simp
 omega
end Go.Proofs.YthocmhkafgpgbaaGreatDoor
namespace Go.Proofs.YthocmhkafgpgbaaGreatDoor
open Go.RowKit
def FixCode (code : Int) (size : Nat) : Prop := (code = 81 ∧ size = 8) ∨ (code = 82 ∧ size = 12) ∨ (code = 76 ∧ size = 16)
theorem gcd_cross (N P : Nat) (hP : 0 < P) : N / Nat.gcd N P * P = N * (P / Nat.gcd N P) := by
 have hg : 0 < Nat.gcd N P := Nat.gcd_pos_of_pos_right _ hP
 obtain ⟨n, hn⟩ := Nat.gcd_dvd_left N P
 obtain ⟨p, hp⟩ := Nat.gcd_dvd_right N P
 generalize hG : Nat.gcd N P = G at *
 subst hn hp
 rw [Nat.mul_div_cancel_left _ hg, Nat.mul_div_cancel_left _ hg]
 simp only [Nat.mul_assoc, Nat.mul_left_comm, Nat.mul_comm]
theorem pow10_le {sc : Nat} (h : sc ≤ 15) : 10 ^ sc ≤ 1000000000000000 := Nat.le_trans (Nat.pow_le_pow_right (by omega) h) (by decide)
theorem pow10_pos (sc : Nat) : 0 < 10 ^ sc := Nat.pow_pos (by omega)
theorem beB_len {n k : Nat} (h : n < 256 ^ k) : (beB n).length ≤ k := by rw [beB_length]; exact (digs_length_le (by omega)).2 h
theorem prod_lt {N sc k : Nat} (hN : N < 256 ^ k) (hk : k ≤ 15) (hsc : sc ≤ 15) (G : Nat) : (digs WB (N / G * 10 ^ sc)).length ≤ 1000 := by
 refine Nat.le_trans ((digs_length_le WB_one (k := 3)).2 ?_) (by omega)
 have h1 : N / G ≤ N := Nat.div_le_self _ _
 have h2 : N < 256 ^ 15 := Nat.lt_of_lt_of_le hN (Nat.pow_le_pow_right (by omega) hk)
 have h3 := pow10_le hsc
 refine Nat.lt_of_le_of_lt (Nat.mul_le_mul (Nat.le_trans h1 (Nat.le_of_lt h2)) h3) ?_
 rw [WB_eq]
 decide
theorem words_lt {N k : Nat} (hN : N < 256 ^ k) (hk : k ≤ 15) : (digs WB N).length < 40 := by
 refine Nat.lt_of_le_of_lt ((digs_length_le WB_one (k := 2)).2 (Nat.lt_of_lt_of_le hN ?_)) (by omega)
 refine Nat.le_trans (Nat.pow_le_pow_right (by omega) hk) ?_
 rw [WB_eq]; decide
theorem fbFixedAny (w : World) (code : Int) (size : Nat) (hc : FixCode code size) (neg : Bool) (v u : Value) (N sc : Nat) (h : BytesIn w v (beB N)) (hd : BytesIn w u (beB (10 ^ sc))) (hsc : sc ≤ 15) (hN : N < 256 ^ (size - 1)) (hneg : neg = true → N ≠ 0) (hg : Thr w) (hGL : GL ≤ w.heap.size) :
  Calls Tryz.prog 8 #[.int .i64 code, .agg (ratVal neg v u), .int .i64 38, .int .i64 sc] w fun e w' =>
   ∃ r, e = .returned (.tuple #[r, .int .i64 size, .int .i64 0]) ∧ w'.ownsRow w.heap.size 5 1 r ([code] ++ leB (zOf neg N) size).length (u8s ([code] ++ leB (zOf neg N) size)) ∧ Below w.heap.size w w' := by
 have hP := pow10_pos sc
 have hle := pow10_le hsc
 have hz : zOf (neg && decide (beVal (beB N) ≠ 0)) N = zOf neg N := by
  rw [beB_val]
  cases neg with
  | false => rfl
  | true => rw [decide_eq_true (hneg rfl)]; rfl
 have hk : size - 1 ≤ 15 := by rcases hc with ⟨_, rfl⟩ | ⟨_, rfl⟩ | ⟨_, rfl⟩ <;> omega
 have l1 : (beB N).length ≤ 400 := Nat.le_trans (beB_len hN) (by omega)
 have l2 : (beB (10 ^ sc)).length ≤ 400 := Nat.le_trans (beB_len (k := 7) (Nat.lt_of_le_of_lt hle (by decide))) (by omega)
 have y0 : beVal (beB (10 ^ sc)) ≠ 0 := by rw [beB_val]; omega
 have yW : beVal (beB (10 ^ sc)) < WB := by rw [beB_val, WB_eq]; omega
 have l3 : (digs WB (beVal (beB N))).length < 40 := by rw [beB_val]; exact words_lt hN hk
 have heq : beVal (beB N) / Nat.gcd (beVal (beB N)) (beVal (beB (10 ^ sc))) * 10 ^ sc = N * (beVal (beB (10 ^ sc)) / Nat.gcd (beVal (beB N)) (beVal (beB (10 ^ sc)))) := by
  rw [beB_val, beB_val]; exact gcd_cross N _ hP
 have l4 : (digs WB (beVal (beB N) / Nat.gcd (beVal (beB N)) (beVal (beB (10 ^ sc))) * 10 ^ sc)).length ≤ 1000 := by
  rw [beB_val]; exact prod_lt hN hk hsc _
 rcases hc with ⟨rfl, rfl⟩ | ⟨rfl, rfl⟩ | ⟨rfl, rfl⟩
 ·have := fbVal8 w neg v u (beB N) (beB (10 ^ sc)) N sc h hd l1 l2 y0 yW l3 hsc heq l4 hN hg hGL
  rw [hz] at this
  exact this
 ·have := fbVal12 w neg v u (beB N) (beB (10 ^ sc)) N sc h hd l1 l2 y0 yW l3 hsc heq l4 hN hg hGL
  rw [hz] at this
  exact this
 ·have := fbVal16 w neg v u (beB N) (beB (10 ^ sc)) N sc h hd l1 l2 y0 yW l3 hsc heq l4 hN hg hGL
  rw [hz] at this
  exact this
theorem roFixedAny (w : World) (code : Int) (size : Nat) (hc : FixCode code size) (neg : Bool) (N sc : Nat) (hsc : sc ≤ 15) (hN : N < 256 ^ (size - 1)) (hneg : neg = true → N ≠ 0) (hg : Thr w) (hGL : GL ≤ w.heap.size) (rb ro c : Nat) (hin : Input w rb ro (size + 1) c (1 :: leB (zOf neg N) size)) (hrb : rb < w.heap.size) :
  Calls Tryz.prog 10 #[.int .i64 code, .slice (some ⟨rb, ro, none⟩) (size + 1) c, .int .i64 sc, .bool false, .bool false] w fun e w' =>
   ∃ v B, e = .returned (.tuple #[.agg v, .int .i64 ((size + 1 : Nat) : Int), .int .i64 0]) ∧ RatVal w neg (N / Nat.gcd N (10 ^ sc)) (10 ^ sc / Nat.gcd N (10 ^ sc)) v B w' ∧ Below w.heap.size w w' := by
 have hz : (decide (N ≠ 0) && neg) = neg := by
  cases neg with
  | false => simp
  | true => rw [decide_eq_true (hneg rfl)]; rfl
 rcases hc with ⟨rfl, rfl⟩ | ⟨rfl, rfl⟩ | ⟨rfl, rfl⟩
 ·have := roFixed8 w N sc neg hN hsc hg hGL rb ro c hin hrb
  rw [hz] at this
  exact this
 ·have := roFixed12 w N sc neg hN hsc hg hGL rb ro c hin hrb
  rw [hz] at this
  exact this
 ·have := roFixed16 w N sc neg hN hsc hg hGL rb ro c hin hrb
  rw [hz] at this
  exact this
end Go.Proofs.YthocmhkafgpgbaaGreatDoor
namespace Go.Proofs.YthocmhkafgpgbaaGreatDoor
open Go.RowKit Go.Proofs.YthocmhkafgpgbaaGreatDoorW.PrintWords
def Reads (k : IntKind) (w : World) (v : Value) (xs : List Nat) : Prop := ∃ A c, v = .slice A xs.length c ∧ xs.length ≤ c ∧ (Kd.int k).C w A xs.length (il xs)
theorem Reads.below {k : IntKind} {w w' : World} {v : Value} {xs : List Nat} (h : Reads k w v xs) (hb : Below w.heap.size w w') : Reads k w' v xs := by
 obtain ⟨A, c, rfl, hc, hr⟩ := h
 exact ⟨A, c, rfl, hc, Kd.C_below hr hb⟩
theorem Reads.of_R {k : IntKind} {e : Nat} {w : World} {base : Nat} {ok : Nat → Prop} {v : Value} {xs : List Nat} (h : (Kd.int k).R e w base ok v (il xs)) : Reads k w v xs := by
 obtain ⟨A, c, rfl, hl, hr⟩ := Kd.R_reads h
 rw [il_length] at hl hr
 exact ⟨A, c, by rw [il_length], hl, hr⟩
theorem reads_nil (k : IntKind) (w : World) : Reads k w (.slice none 0 0) [] := ⟨none, 0, rfl, Nat.le_refl _, by simp [il], by simp, fun h => absurd h (Nat.lt_irrefl 0)⟩
theorem reads_cells {k : IntKind} {w : World} {a : Addr} {c : Nat} {xs : List Nat} (hc : xs.length ≤ c) (hm : xs.length ≤ 9223372036854775807) (h : ∀ j (hj : j < xs.length), w.cell? (a.add j) = some (.int k (xs[j] : Int))) : Reads k w (.slice (some a) xs.length c) xs := by
 refine ⟨some a, c, rfl, hc, by simp [il], hm, fun _ => ⟨a, rfl, fun j p hp => ⟨[.int k p], rfl, rfl, fun i u hu => ?_⟩⟩⟩
 obtain ⟨hj, rfl⟩ := List.getElem?_eq_some_iff.1 hp
 rw [il_length] at hj
 have h2 := h j hj
 cases i with
 | zero =>
  simp only [List.getElem?_cons_zero, Option.some.injEq] at hu
  subst hu
  simpa [Kd.int, Kd.scalar, il] using h2
 | succ i => simp at hu
theorem Reads.cells {k : IntKind} {w : World} {a : Option Addr} {n c : Nat} {xs : List Nat} (h : Reads k w (.slice a n c) xs) (j : Nat) (hj : j < xs.length) : ∃ ad, a = some ad ∧ w.cell? (ad.add j) = some (.int k (xs[j] : Int)) := by
 obtain ⟨A, c', he, hc, hr⟩ := h
 injection he with he1 he2
 subst he1
 obtain ⟨ad, e, hcell⟩ := Kd.at_int hr (j : Int) (by omega) (by omega)
 refine ⟨ad, e, ?_⟩
 rw [rd_il] at hcell
 rw [show ((j : Int)).toNat = j by omega] at hcell
 rw [hcell]
 simp [List.getD_eq_getElem?_getD, List.getElem?_eq_getElem hj]
theorem Reads.len {k : IntKind} {w : World} {a : Option Addr} {n c : Nat} {xs : List Nat} (h : Reads k w (.slice a n c) xs) : n = xs.length ∧ n ≤ c := by
 obtain ⟨A, c', he, hc, hr⟩ := h
 injection he with he1 he2 he3
 subst he2 he3
 exact ⟨rfl, hc⟩
def NatS (w : World) (v : Value) (n : Nat) : Prop := Reads .u32 w v (digs LB n)
theorem NatS.below {w w' : World} {v : Value} {n : Nat} (h : NatS w v n) (hb : Below w.heap.size w w') : NatS w' v n := Reads.below h hb
end Go.Proofs.YthocmhkafgpgbaaGreatDoor
