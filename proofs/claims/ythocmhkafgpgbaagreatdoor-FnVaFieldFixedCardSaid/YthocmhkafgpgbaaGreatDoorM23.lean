/- Parts of the walk. -/
import Derived.Test.YthocmhkafgpgbaaGreatDoorM20
import Derived.Test.YthocmhkafgpgbaaGreatDoorM21
import Derived.Test.YthocmhkafgpgbaaGreatDoorM22
import Derived.StillTailTactics
import Derived.Laws.RangeString
set_option linter.unusedVariables false
set_option linter.unusedSimpArgs false
namespace Go.Proofs.YthocmhkafgpgbaaGreatDoor
open Go.RowKit
theorem Thr.below {w w' : World} {B : Nat} (h : Thr w) (hb : Below B w w') (hB : GL ≤ B) : Thr w' :=
 ⟨(hb.cell (Nat.lt_of_lt_of_le (by decide) hB)).trans h.div, (hb.cell (Nat.lt_of_lt_of_le (by decide) hB)).trans h.mul, (hb.cell (Nat.lt_of_lt_of_le (by decide) hB)).trans h.sqr, (hb.cell (Nat.lt_of_lt_of_le (by decide) hB)).trans h.sqrK⟩
theorem topdiv {N Q : Nat} (h : N < Q) (h0 : N ≠ 0) : (Q * 256 - N) / Q = 255 := Nat.div_eq_of_lt_le (by omega) (by omega)
theorem decFixed_any (w : World) (base D S rb ro n c : Nat) (tr : Value) (dfv emp : Bool) (k : Nat) (bs : List Int) (N size : Nat) (s : Bool) (hx : (bs.drop k).take size = leB (zOf s N) size) (hsz : size = 8 ∨ size = 12 ∨ size = 16) (hN : N < 256 ^ (size - 1))
  (h : DecAt w base D S rb ro n c tr dfv emp k) (hin : Input w rb ro n c bs) (hkm : k + size ≤ n) :
  Calls Tryz.prog 243 #[.pointer (some ⟨D, 0, none⟩), .int .i64 size] w fun e w' =>
   ∃ g v, e = .returned (.pointer (some ⟨g, 0, none⟩)) ∧ IntAt w' w.heap.size g 0 (decide (N ≠ 0) && s) v N ∧ w.heap.size ≤ g ∧ DecAt w' base D S rb ro n c tr dfv emp (k + size) ∧ Keeps (fun x => x = D ∨ x = S) w w' := by
 obtain ⟨Y, hY, hb, hc⟩ := leB_nat N size s hN (by omega)
 have hb' : ∀ j (h : k + j < bs.length), j < size → bs[k + j] = ((Y / 256 ^ j % 256 : Nat) : Int) := fun j h hj => by
  rw [leAt hx j hj h, hb j (by simpa using hj)]
 have hs : 256 ^ size = 256 ^ (size - 1) * 256 := by obtain ⟨q, rfl⟩ : ∃ q, size = q + 1 := ⟨size - 1, by omega⟩; rw [Nat.pow_succ]; rfl
 have hp0 : 0 < 256 ^ (size - 1) := Nat.pow_pos (by omega)
 rcases hc with ⟨h0, rfl, hYe⟩ | ⟨h1, hYe⟩
 ·have htop : Y / 256 ^ (size - 1) % 256 = 255 := by
   have : Y / 256 ^ (size - 1) = 255 := by
    rw [hYe, hs]
    exact topdiv hN h0
   rw [this]
  have hr := decFixed_neg w base D S rb ro n c tr dfv emp k bs (size - 1) size Y (256 ^ size - 1 - Y) (fun j => Y / 256 ^ j % 256) (by omega) hsz hb' (fun _ => rfl) htop hY rfl h hin hkm
  rw [show 256 ^ size - 1 - Y + 1 = N by omega] at hr
  rw [show (decide (N ≠ 0) && true) = true by simp [h0]]
  exact hr
 ·have htop : Y / 256 ^ (size - 1) % 256 = 0 := by rw [hYe, Nat.div_eq_of_lt hN]
  have hr := decFixed_pos w base D S rb ro n c tr dfv emp k bs (size - 1) size Y Y (fun j => Y / 256 ^ j % 256) (by omega) hsz hb' (fun _ => rfl) htop hY rfl h hin hkm
  rw [h1]
  rw [hYe] at hr
  exact hr
set_option maxRecDepth 100000 in
theorem decodeFixed_any (w : World) (base D S rb ro n c : Nat) (tr : Value) (dfv emp : Bool) (k : Nat) (bs : List Int) (N size sc : Nat) (s : Bool) (hx : (bs.drop k).take size = leB (zOf s N) size) (hsz : size = 8 ∨ size = 12 ∨ size = 16) (hN : N < 256 ^ (size - 1)) (hsc : sc ≤ 15) (hg : Thr w) (hGL : GL ≤ base) (hbw : base ≤ w.heap.size)
  (h : DecAt w base D S rb ro n c tr dfv emp k) (hin : Input w rb ro n c bs) (hkm : k + size ≤ n) :
  Calls Tryz.prog 188 #[.pointer (some ⟨D, 0, none⟩), .int .i64 size, .int .i64 sc] w fun e w' =>
   ∃ g v u b, e = .returned (.tuple #[.iface 98 (.pointer (some ⟨g, 0, none⟩)), .nilIface]) ∧ RatAt w' b g (decide (N ≠ 0) && s) false v u (N / Nat.gcd N (10 ^ sc)) (10 ^ sc / Nat.gcd N (10 ^ sc)) ∧ w.heap.size ≤ b ∧ w.heap.size ≤ g ∧ DecAt w' base D S rb ro n c tr dfv emp (k + size) ∧ Keeps (fun x => x = D ∨ x = S) w w' := by
 have hF := Lib.hid (decFixed_any w base D S rb ro n c tr dfv emp k bs N size s hx hsz hN h hin hkm)
 have hlN : (digs WB N).length ≤ 2 := (digs_length_le WB_one).2 (Nat.lt_of_lt_of_le hN (by rw [WB_eq]; rcases hsz with e | e | e <;> subst e <;> decide))
 have hlo := h.lo
 have hlN' := Lib.hid hlN
 have hg' := Lib.hid hg
 have hb' := Lib.hid (And.intro hGL (And.intro hbw hlo))
 clear hx hsz hN h hin hkm hlN hg hGL hbw hlo
 go_enter Tryz.func188, Tryz.ntmps188
 go_wp2_with fail
 refine hF.out.mono ?_
 rintro e w1 ⟨g, v, rfl, hm, hgl, hd, hk⟩
 obtain ⟨hGL, hbw, hl1, hl2⟩ := hb'.out
 have hg1 := hg'.out.kept hk (fun k h1 h2 => by omega)
 have hR := Lib.hid (fixedToRat_any w1 w.heap.size g 0 N sc _ v hm hsc (by have := hlN'.out; omega) hg1 (by have := hk.size; omega))
 have hkH := Lib.hid (And.intro hd hk)
 clear hm hgl hd hk hg1 hF hGL hbw hl1 hl2
 go_wp2_with fail
 refine hR.out.mono ?_
 rintro e w2 ⟨g2, v2, u2, rfl, hq⟩
 have hend := Lib.hid (show RatAt w2 w1.heap.size g2 (decide (N ≠ 0) && s) false v2 u2 (N / Nat.gcd N (10 ^ sc)) (10 ^ sc / Nat.gcd N (10 ^ sc)) ∧ w.heap.size ≤ w1.heap.size ∧ w.heap.size ≤ g2 ∧ DecAt w2 base D S rb ro n c tr dfv emp (k + size) ∧ Keeps (fun x => x = D ∨ x = S) w w2 from
  ⟨by have := hq.at_; rw [show (decide (N ≠ 0) && (decide (N ≠ 0) && s)) = (decide (N ≠ 0) && s) by cases decide (N ≠ 0) <;> rfl] at this; exact this, hkH.out.2.size, Nat.le_trans hkH.out.2.size hq.ge, hkH.out.1.keep hq.keep id id, hkH.out.2.trans hq.keep (fun _ _ h => h.elim)⟩)
 clear hq hR
 go_wp2_with fail
 go_ret2
 exact ⟨g2, v2, u2, w1.heap.size, rfl, hend.out⟩
set_option maxRecDepth 100000 in
theorem decFixed8_any (w : World) (base D S rb ro n c : Nat) (tr : Value) (dfv emp : Bool) (k : Nat) (bs : List Int) (N sc : Nat) (s : Bool) (h1 : bs[k]? = some 1) (hx : (bs.drop (k + 1)).take 8 = leB (zOf s N) 8) (hN : N < 256 ^ 7) (hsc : sc ≤ 15) (hg : Thr w) (hGL : GL ≤ base) (hbw : base ≤ w.heap.size)
  (h : DecAt w base D S rb ro n c tr dfv emp k) (hin : Input w rb ro n c bs) (hrb : rb < base) (hkm : k + 1 + 8 ≤ n) :
  Calls Tryz.prog 113 #[.pointer (some ⟨D, 0, none⟩), .int .i64 sc] w fun e w' =>
   ∃ g v u b, e = .returned (.tuple #[.iface 98 (.pointer (some ⟨g, 0, none⟩)), .nilIface]) ∧ RatAt w' b g (decide (N ≠ 0) && s) false v u (N / Nat.gcd N (10 ^ sc)) (10 ^ sc / Nat.gcd N (10 ^ sc)) ∧ w.heap.size ≤ b ∧ w.heap.size ≤ g ∧ DecAt w' base D S rb ro n c tr dfv emp (k + 1 + 8) ∧ Below base w w' := by
 have hB := Lib.hid (decBoolT w base D S rb ro n c tr dfv emp k bs h1 h hin)
 have hF := Lib.hid (fun w1 (hd : DecAt w1 base D S rb ro n c tr dfv emp (k + 1)) (hi : Input w1 rb ro n c bs) (hg1 : Thr w1) (hb1 : base ≤ w1.heap.size) => decodeFixed_any w1 base D S rb ro n c tr dfv emp (k + 1) bs N 8 sc s hx (by omega) hN hsc hg1 hGL hb1 hd hi hkm)
 have hlo := Lib.hid h.lo
 have hg' := Lib.hid hg
 have hi' := Lib.hid hin
 have hbb := Lib.hid (And.intro hGL (And.intro hbw hrb))
 clear h1 hx hN hsc hg hGL hbw h hin hrb hkm
 go_enter Tryz.func113, Tryz.ntmps113
 go_wp2_with fail
 refine hB.out.mono ?_
 rintro e w1 ⟨rfl, hd1, hb1⟩
 have hw1 := hb1.size
 have hg1 : Thr w1 := by
  obtain ⟨h1, -, -⟩ := hbb.out
  exact hg'.out.below hb1 h1
 have hF1 := Lib.hid (hF.out w1 hd1 (hi'.out.below hb1 hbb.out.2.2) hg1 (by have := hbb.out; omega))
 have hb1' := Lib.hid hb1
 clear hB hF hd1 hb1 hg1
 go_wp2_with fail
 refine hF1.out.mono ?_
 rintro e w2 ⟨g, v, u, b, rfl, hr, hl1, hl2, hd, hk⟩
 have hend := Lib.hid (show RatAt w2 b g (decide (N ≠ 0) && s) false v u (N / Nat.gcd N (10 ^ sc)) (10 ^ sc / Nat.gcd N (10 ^ sc)) ∧ w.heap.size ≤ b ∧ w.heap.size ≤ g ∧ DecAt w2 base D S rb ro n c tr dfv emp (k + 1 + 8) ∧ Below base w w2 from
  ⟨hr, by omega, by omega, hd, hb1'.out.trans (hk.below (by have := hbb.out; omega) (fun k hk e => by have := hlo.out; omega))⟩)
 clear hr hl1 hl2 hd hk hF1
 go_wp2_with fail
 go_ret2
 exact ⟨g, v, u, b, rfl, hend.out⟩
set_option maxRecDepth 100000 in
theorem decFixed12_any (w : World) (base D S rb ro n c : Nat) (tr : Value) (dfv emp : Bool) (k : Nat) (bs : List Int) (N sc : Nat) (s : Bool) (h1 : bs[k]? = some 1) (hx : (bs.drop (k + 1)).take 12 = leB (zOf s N) 12) (hN : N < 256 ^ 11) (hsc : sc ≤ 15) (hg : Thr w) (hGL : GL ≤ base) (hbw : base ≤ w.heap.size)
  (h : DecAt w base D S rb ro n c tr dfv emp k) (hin : Input w rb ro n c bs) (hrb : rb < base) (hkm : k + 1 + 12 ≤ n) :
  Calls Tryz.prog 114 #[.pointer (some ⟨D, 0, none⟩), .int .i64 sc] w fun e w' =>
   ∃ g v u b, e = .returned (.tuple #[.iface 98 (.pointer (some ⟨g, 0, none⟩)), .nilIface]) ∧ RatAt w' b g (decide (N ≠ 0) && s) false v u (N / Nat.gcd N (10 ^ sc)) (10 ^ sc / Nat.gcd N (10 ^ sc)) ∧ w.heap.size ≤ b ∧ w.heap.size ≤ g ∧ DecAt w' base D S rb ro n c tr dfv emp (k + 1 + 12) ∧ Below base w w' := by
 have hB := Lib.hid (decBoolT w base D S rb ro n c tr dfv emp k bs h1 h hin)
 have hF := Lib.hid (fun w1 (hd : DecAt w1 base D S rb ro n c tr dfv emp (k + 1)) (hi : Input w1 rb ro n c bs) (hg1 : Thr w1) (hb1 : base ≤ w1.heap.size) => decodeFixed_any w1 base D S rb ro n c tr dfv emp (k + 1) bs N 12 sc s hx (by omega) hN hsc hg1 hGL hb1 hd hi hkm)
 have hlo := Lib.hid h.lo
 have hg' := Lib.hid hg
 have hi' := Lib.hid hin
 have hbb := Lib.hid (And.intro hGL (And.intro hbw hrb))
 clear h1 hx hN hsc hg hGL hbw h hin hrb hkm
 go_enter Tryz.func114, Tryz.ntmps114
 go_wp2_with fail
 refine hB.out.mono ?_
 rintro e w1 ⟨rfl, hd1, hb1⟩
 have hw1 := hb1.size
 have hg1 : Thr w1 := by
  obtain ⟨h1, -, -⟩ := hbb.out
  exact hg'.out.below hb1 h1
 have hF1 := Lib.hid (hF.out w1 hd1 (hi'.out.below hb1 hbb.out.2.2) hg1 (by have := hbb.out; omega))
 have hb1' := Lib.hid hb1
 clear hB hF hd1 hb1 hg1
 go_wp2_with fail
 refine hF1.out.mono ?_
 rintro e w2 ⟨g, v, u, b, rfl, hr, hl1, hl2, hd, hk⟩
 have hend := Lib.hid (show RatAt w2 b g (decide (N ≠ 0) && s) false v u (N / Nat.gcd N (10 ^ sc)) (10 ^ sc / Nat.gcd N (10 ^ sc)) ∧ w.heap.size ≤ b ∧ w.heap.size ≤ g ∧ DecAt w2 base D S rb ro n c tr dfv emp (k + 1 + 12) ∧ Below base w w2 from
  ⟨hr, by omega, by omega, hd, hb1'.out.trans (hk.below (by have := hbb.out; omega) (fun k hk e => by have := hlo.out; omega))⟩)
 clear hr hl1 hl2 hd hk hF1
 go_wp2_with fail
 go_ret2
 exact ⟨g, v, u, b, rfl, hend.out⟩
set_option maxRecDepth 100000 in
theorem decFixed16_any (w : World) (base D S rb ro n c : Nat) (tr : Value) (dfv emp : Bool) (k : Nat) (bs : List Int) (N sc : Nat) (s : Bool) (h1 : bs[k]? = some 1) (hx : (bs.drop (k + 1)).take 16 = leB (zOf s N) 16) (hN : N < 256 ^ 15) (hsc : sc ≤ 15) (hg : Thr w) (hGL : GL ≤ base) (hbw : base ≤ w.heap.size)
  (h : DecAt w base D S rb ro n c tr dfv emp k) (hin : Input w rb ro n c bs) (hrb : rb < base) (hkm : k + 1 + 16 ≤ n) :
  Calls Tryz.prog 115 #[.pointer (some ⟨D, 0, none⟩), .int .i64 sc] w fun e w' =>
   ∃ g v u b, e = .returned (.tuple #[.iface 98 (.pointer (some ⟨g, 0, none⟩)), .nilIface]) ∧ RatAt w' b g (decide (N ≠ 0) && s) false v u (N / Nat.gcd N (10 ^ sc)) (10 ^ sc / Nat.gcd N (10 ^ sc)) ∧ w.heap.size ≤ b ∧ w.heap.size ≤ g ∧ DecAt w' base D S rb ro n c tr dfv emp (k + 1 + 16) ∧ Below base w w' := by
 have hB := Lib.hid (decBoolT w base D S rb ro n c tr dfv emp k bs h1 h hin)
 have hF := Lib.hid (fun w1 (hd : DecAt w1 base D S rb ro n c tr dfv emp (k + 1)) (hi : Input w1 rb ro n c bs) (hg1 : Thr w1) (hb1 : base ≤ w1.heap.size) => decodeFixed_any w1 base D S rb ro n c tr dfv emp (k + 1) bs N 16 sc s hx (by omega) hN hsc hg1 hGL hb1 hd hi hkm)
 have hlo := Lib.hid h.lo
 have hg' := Lib.hid hg
 have hi' := Lib.hid hin
 have hbb := Lib.hid (And.intro hGL (And.intro hbw hrb))
 clear h1 hx hN hsc hg hGL hbw h hin hrb hkm
 go_enter Tryz.func115, Tryz.ntmps115
 go_wp2_with fail
 refine hB.out.mono ?_
 rintro e w1 ⟨rfl, hd1, hb1⟩
 have hw1 := hb1.size
 have hg1 : Thr w1 := by
  obtain ⟨h1, -, -⟩ := hbb.out
  exact hg'.out.below hb1 h1
 have hF1 := Lib.hid (hF.out w1 hd1 (hi'.out.below hb1 hbb.out.2.2) hg1 (by have := hbb.out; omega))
 have hb1' := Lib.hid hb1
 clear hB hF hd1 hb1 hg1
 go_wp2_with fail
 refine hF1.out.mono ?_
 rintro e w2 ⟨g, v, u, b, rfl, hr, hl1, hl2, hd, hk⟩
 have hend := Lib.hid (show RatAt w2 b g (decide (N ≠ 0) && s) false v u (N / Nat.gcd N (10 ^ sc)) (10 ^ sc / Nat.gcd N (10 ^ sc)) ∧ w.heap.size ≤ b ∧ w.heap.size ≤ g ∧ DecAt w2 base D S rb ro n c tr dfv emp (k + 1 + 16) ∧ Below base w w2 from
  ⟨hr, by omega, by omega, hd, hb1'.out.trans (hk.below (by have := hbb.out; omega) (fun k hk e => by have := hlo.out; omega))⟩)
 clear hr hl1 hl2 hd hk hF1
 go_wp2_with fail
 go_ret2
 exact ⟨g, v, u, b, rfl, hend.out⟩
end Go.Proofs.YthocmhkafgpgbaaGreatDoor
namespace Go.Proofs.YthocmhkafgpgbaaGreatDoor
open Go.RowKit
set_option maxRecDepth 100000 in
theorem anyOf7 (w : World) (b : Bool) (i : Int) (f : Nat) (bs : Value) (s : ByteArray) (neg : Bool) (v u : Value) (xs ys : List Nat) (h : BytesIn w v xs) (hd : BytesIn w u ys) (hn : xs.length ≤ 400) (hm : ys.length ≤ 400) (hy : beVal ys ≠ 0) (hs : beVal xs < WB ∨ beVal ys < WB)
  (hlx : (digs WB (beVal xs)).length ≤ 1000) (hly : (digs WB (beVal ys)).length ≤ 1000) :
  Calls Tryz.prog 22 #[.agg (valCells 7 b i f bs s neg v u)] w fun e w' => ∃ g v' u', e = .returned (.tuple #[.iface 98 (.pointer (some ⟨g, 0, none⟩)), .bool true]) ∧ RatNew w w' g (neg && decide (beVal xs ≠ 0)) v' u' (beVal xs / Nat.gcd (beVal xs) (beVal ys)) (beVal ys / Nat.gcd (beVal xs) (beVal ys)) := by
 have k0 := (Keeps.refl (fun _ => False) w).alloc (.cells (valCells 7 b i f bs s neg v u) 52)
 have hR := Lib.hid (ratOf_any (w.alloc (.cells (valCells 7 b i f bs s neg v u) 52)) neg v u xs ys (h.kept k0) (hd.kept k0) hn hm hy hs hlx hly)
 have k0 := Lib.hid k0
 clear h hd hn hm hy hs hlx hly
 go_enter Tryz.func22, Tryz.ntmps22
 go_wp2_with fail
 refine hR.out.mono ?_
 rintro e w1 ⟨g, v', u', rfl, hq⟩
 have hend := Lib.hid (show RatNew w w1 g (neg && decide (beVal xs ≠ 0)) v' u' (beVal xs / Nat.gcd (beVal xs) (beVal ys)) (beVal ys / Nat.gcd (beVal xs) (beVal ys)) from
  ⟨⟨hq.at_.num.lower k0.out.size, hq.at_.den.lower k0.out.size, hq.at_.ap⟩, k0.out.trans hq.keep (fun _ _ h => h), Nat.le_trans k0.out.size hq.ge⟩)
 clear hq hR
 go_wp2_with fail
 go_ret2
 exact ⟨g, v', u', rfl, hend.out⟩
structure FixArg (w : World) (br gr n d N sc : Nat) (s : Bool) (v u : Value) (size : Nat) : Prop where
 rat : RatAt w br gr s false v u n d
 sc15 : sc ≤ 15
 d0 : d ≠ 0
 dW : d < WB
 eq : n * 10 ^ sc = N * d
 ln : (digs WB n).length < 40
 le : (digs WB (n * 10 ^ sc)).length ≤ 1000
 lt : N < 256 ^ (size - 1)
set_option maxRecDepth 100000 in
theorem prmFixed8 (w : World) (base E S W F br gr n d N sc : Nat) (tr v u : Value) (xs : List Int) (s : Bool) (h : EncAt w base E S W tr xs) (ha : FixArg w br gr n d N sc s v u 8) (hg : Thr w) (hGL : GL ≤ base) (hl : xs.length ≤ 100)
  (hgr : gr < base) (hv : ∀ k, v.ownBlock = some k → k < base) (hu : ∀ k, u.ownBlock = some k → k < base)
  (hF : w.cell? ⟨F, 5, none⟩ = some (.int .u8 81)) (hF2 : w.cell? ⟨F, 2, none⟩ = some (.int .i64 38)) (hF3 : w.cell? ⟨F, 3, none⟩ = some (.int .i64 sc)) (hFb : F < base) :
  Calls Tryz.prog 46 #[.pointer (some ⟨F, 0, none⟩), .pointer (some ⟨E, 0, none⟩), .iface 98 (.pointer (some ⟨gr, 0, none⟩))] w fun e w' =>
   e = .returned .nilIface ∧ EncAt w' base E S W tr (xs ++ [81] ++ leB (zOf s N) 8) ∧ Below base w w' := by
 have key : ∀ w1, EncAt w1 base E S W tr (xs ++ [81]) → Below base w w1 → Calls Tryz.prog 87 #[.pointer (some ⟨E, 0, none⟩), .iface 98 (.pointer (some ⟨gr, 0, none⟩)), .int .i64 38, .int .i64 sc] w1 fun e w' =>
   e = .returned .nilIface ∧ EncAt w' base E S W tr (xs ++ [81] ++ leB (zOf s N) 8) ∧ Below base w1 w' := fun w1 h1 hb1 =>
  fixed8_any w1 base E S W br gr n d N sc tr v u (xs ++ [81]) s h1 (ha.rat.kept (T := fun k => base ≤ k) ⟨hb1.os, hb1.tape, hb1.output, hb1.size, fun k hk hT => hb1.block k (by omega)⟩ (by omega) (fun k hk => by have := hv k hk; omega) (fun k hk => by have := hu k hk; omega)) ha.sc15 ha.d0 ha.dW ha.eq ha.ln ha.le (hg.below hb1 hGL) (by have h1 := h.lo.1; have h2 := sizeOf_blk h.enc; have h3 := hb1.size; omega) ha.lt (by simp; omega)
 have key' := Lib.hid key; clear key
 have ha' := Lib.hid ha
 clear ha hg hGL hgr hv hu
 go_enter Tryz.func46, Tryz.ntmps46
 go_wp2_with (first | (go_at_call 69; go_in) | (go_at_call 65; go_in))
 refine (byte_any w base E S W tr xs h 81 (by omega)).mono ?_
 rintro e w1 ⟨rfl, h1, hb⟩
 have hF1 : w1.cell? ⟨F, 5, none⟩ = some (.int .u8 81) := (hb.cell (p := ⟨F, 5, none⟩) hFb).trans hF
 have hF12 : w1.cell? ⟨F, 2, none⟩ = some (.int .i64 38) := (hb.cell (p := ⟨F, 2, none⟩) hFb).trans hF2
 have hF13 : w1.cell? ⟨F, 3, none⟩ = some (.int .i64 sc) := (hb.cell (p := ⟨F, 3, none⟩) hFb).trans hF3
 have hk := Lib.hid (key'.out w1.drew h1.drew hb.drew)
 have hb' := Lib.hid hb.drew
 clear h1 hb key' hF hF2 hF3
 go_wp2_with fail
 go_still_tail 10, (by kernel_rfl)
 change wpList _ _ _ _ _ w1.drew
 go_wp2_with fail
 refine hk.out.mono ?_
 rintro e w2 ⟨rfl, h2, hb2⟩
 have hfin := Lib.hid (And.intro h2 (hb'.out.trans hb2))
 clear h2 hb2
 go_wp2_with fail
 go_ret
 exact ⟨rfl, hfin.out⟩
set_option maxRecDepth 100000 in
theorem sizeFixed8 (w : World) (F : Nat) (x : Value) (hF : w.cell? ⟨F, 5, none⟩ = some (.int .u8 81)) :
  Calls Tryz.prog 25 #[.pointer (some ⟨F, 0, none⟩), .iface 98 x] w fun e w' => e = .returned (.int .i64 8) ∧ w = w' := by
 go_enter Tryz.func25, Tryz.ntmps25
 go_wp2
 go_ret
 exact ⟨by simp, rfl⟩
set_option maxRecDepth 100000 in
theorem prmFixed12 (w : World) (base E S W F br gr n d N sc : Nat) (tr v u : Value) (xs : List Int) (s : Bool) (h : EncAt w base E S W tr xs) (ha : FixArg w br gr n d N sc s v u 12) (hg : Thr w) (hGL : GL ≤ base) (hl : xs.length ≤ 100)
  (hgr : gr < base) (hv : ∀ k, v.ownBlock = some k → k < base) (hu : ∀ k, u.ownBlock = some k → k < base)
  (hF : w.cell? ⟨F, 5, none⟩ = some (.int .u8 82)) (hF2 : w.cell? ⟨F, 2, none⟩ = some (.int .i64 38)) (hF3 : w.cell? ⟨F, 3, none⟩ = some (.int .i64 sc)) (hFb : F < base) :
  Calls Tryz.prog 46 #[.pointer (some ⟨F, 0, none⟩), .pointer (some ⟨E, 0, none⟩), .iface 98 (.pointer (some ⟨gr, 0, none⟩))] w fun e w' =>
   e = .returned .nilIface ∧ EncAt w' base E S W tr (xs ++ [82] ++ leB (zOf s N) 12) ∧ Below base w w' := by
 have key : ∀ w1, EncAt w1 base E S W tr (xs ++ [82]) → Below base w w1 → Calls Tryz.prog 88 #[.pointer (some ⟨E, 0, none⟩), .iface 98 (.pointer (some ⟨gr, 0, none⟩)), .int .i64 38, .int .i64 sc] w1 fun e w' =>
   e = .returned .nilIface ∧ EncAt w' base E S W tr (xs ++ [82] ++ leB (zOf s N) 12) ∧ Below base w1 w' := fun w1 h1 hb1 =>
  fixed12_any w1 base E S W br gr n d N sc tr v u (xs ++ [82]) s h1 (ha.rat.kept (T := fun k => base ≤ k) ⟨hb1.os, hb1.tape, hb1.output, hb1.size, fun k hk hT => hb1.block k (by omega)⟩ (by omega) (fun k hk => by have := hv k hk; omega) (fun k hk => by have := hu k hk; omega)) ha.sc15 ha.d0 ha.dW ha.eq ha.ln ha.le (hg.below hb1 hGL) (by have h1 := h.lo.1; have h2 := sizeOf_blk h.enc; have h3 := hb1.size; omega) ha.lt (by simp; omega)
 have key' := Lib.hid key; clear key
 have ha' := Lib.hid ha
 clear ha hg hGL hgr hv hu
 go_enter Tryz.func46, Tryz.ntmps46
 go_wp2_with (first | (go_at_call 69; go_in) | (go_at_call 65; go_in))
 refine (byte_any w base E S W tr xs h 82 (by omega)).mono ?_
 rintro e w1 ⟨rfl, h1, hb⟩
 have hF1 : w1.cell? ⟨F, 5, none⟩ = some (.int .u8 82) := (hb.cell (p := ⟨F, 5, none⟩) hFb).trans hF
 have hF12 : w1.cell? ⟨F, 2, none⟩ = some (.int .i64 38) := (hb.cell (p := ⟨F, 2, none⟩) hFb).trans hF2
 have hF13 : w1.cell? ⟨F, 3, none⟩ = some (.int .i64 sc) := (hb.cell (p := ⟨F, 3, none⟩) hFb).trans hF3
 have hk := Lib.hid (key'.out w1.drew h1.drew hb.drew)
 have hb' := Lib.hid hb.drew
 clear h1 hb key' hF hF2 hF3
 go_wp2_with fail
 go_still_tail 10, (by kernel_rfl)
 change wpList _ _ _ _ _ w1.drew
 go_wp2_with fail
 refine hk.out.mono ?_
 rintro e w2 ⟨rfl, h2, hb2⟩
 have hfin := Lib.hid (And.intro h2 (hb'.out.trans hb2))
 clear h2 hb2
 go_wp2_with fail
 go_ret
 exact ⟨rfl, hfin.out⟩
set_option maxRecDepth 100000 in
theorem sizeFixed12 (w : World) (F : Nat) (x : Value) (hF : w.cell? ⟨F, 5, none⟩ = some (.int .u8 82)) :
  Calls Tryz.prog 25 #[.pointer (some ⟨F, 0, none⟩), .iface 98 x] w fun e w' => e = .returned (.int .i64 12) ∧ w = w' := by
 go_enter Tryz.func25, Tryz.ntmps25
 go_wp2
 go_ret
 exact ⟨by simp, rfl⟩
set_option maxRecDepth 100000 in
theorem prmFixed16 (w : World) (base E S W F br gr n d N sc : Nat) (tr v u : Value) (xs : List Int) (s : Bool) (h : EncAt w base E S W tr xs) (ha : FixArg w br gr n d N sc s v u 16) (hg : Thr w) (hGL : GL ≤ base) (hl : xs.length ≤ 100)
  (hgr : gr < base) (hv : ∀ k, v.ownBlock = some k → k < base) (hu : ∀ k, u.ownBlock = some k → k < base)
  (hF : w.cell? ⟨F, 5, none⟩ = some (.int .u8 76)) (hF2 : w.cell? ⟨F, 2, none⟩ = some (.int .i64 38)) (hF3 : w.cell? ⟨F, 3, none⟩ = some (.int .i64 sc)) (hFb : F < base) :
  Calls Tryz.prog 46 #[.pointer (some ⟨F, 0, none⟩), .pointer (some ⟨E, 0, none⟩), .iface 98 (.pointer (some ⟨gr, 0, none⟩))] w fun e w' =>
   e = .returned .nilIface ∧ EncAt w' base E S W tr (xs ++ [76] ++ leB (zOf s N) 16) ∧ Below base w w' := by
 have key : ∀ w1, EncAt w1 base E S W tr (xs ++ [76]) → Below base w w1 → Calls Tryz.prog 89 #[.pointer (some ⟨E, 0, none⟩), .iface 98 (.pointer (some ⟨gr, 0, none⟩)), .int .i64 38, .int .i64 sc] w1 fun e w' =>
   e = .returned .nilIface ∧ EncAt w' base E S W tr (xs ++ [76] ++ leB (zOf s N) 16) ∧ Below base w1 w' := fun w1 h1 hb1 =>
  fixed16_any w1 base E S W br gr n d N sc tr v u (xs ++ [76]) s h1 (ha.rat.kept (T := fun k => base ≤ k) ⟨hb1.os, hb1.tape, hb1.output, hb1.size, fun k hk hT => hb1.block k (by omega)⟩ (by omega) (fun k hk => by have := hv k hk; omega) (fun k hk => by have := hu k hk; omega)) ha.sc15 ha.d0 ha.dW ha.eq ha.ln ha.le (hg.below hb1 hGL) (by have h1 := h.lo.1; have h2 := sizeOf_blk h.enc; have h3 := hb1.size; omega) ha.lt (by simp; omega)
 have key' := Lib.hid key; clear key
 have ha' := Lib.hid ha
 clear ha hg hGL hgr hv hu
 go_enter Tryz.func46, Tryz.ntmps46
 go_wp2_with (first | (go_at_call 69; go_in) | (go_at_call 65; go_in))
 refine (byte_any w base E S W tr xs h 76 (by omega)).mono ?_
 rintro e w1 ⟨rfl, h1, hb⟩
 have hF1 : w1.cell? ⟨F, 5, none⟩ = some (.int .u8 76) := (hb.cell (p := ⟨F, 5, none⟩) hFb).trans hF
 have hF12 : w1.cell? ⟨F, 2, none⟩ = some (.int .i64 38) := (hb.cell (p := ⟨F, 2, none⟩) hFb).trans hF2
 have hF13 : w1.cell? ⟨F, 3, none⟩ = some (.int .i64 sc) := (hb.cell (p := ⟨F, 3, none⟩) hFb).trans hF3
 have hk := Lib.hid (key'.out w1.drew h1.drew hb.drew)
 have hb' := Lib.hid hb.drew
 clear h1 hb key' hF hF2 hF3
 go_wp2_with fail
 go_still_tail 10, (by kernel_rfl)
 change wpList _ _ _ _ _ w1.drew
 go_wp2_with fail
 refine hk.out.mono ?_
 rintro e w2 ⟨rfl, h2, hb2⟩
 have hfin := Lib.hid (And.intro h2 (hb'.out.trans hb2))
 clear h2 hb2
 go_wp2_with fail
 go_ret
 exact ⟨rfl, hfin.out⟩
set_option maxRecDepth 100000 in
theorem sizeFixed16 (w : World) (F : Nat) (x : Value) (hF : w.cell? ⟨F, 5, none⟩ = some (.int .u8 76)) :
  Calls Tryz.prog 25 #[.pointer (some ⟨F, 0, none⟩), .iface 98 x] w fun e w' => e = .returned (.int .i64 16) ∧ w = w' := by
 go_enter Tryz.func25, Tryz.ntmps25
 go_wp2
 go_ret
 exact ⟨by simp, rfl⟩
end Go.Proofs.YthocmhkafgpgbaaGreatDoor
namespace Go.Proofs.YthocmhkafgpgbaaGreatDoor
open Go.RowKit
theorem RatAt.same {W W' : World} {base g n d : Nat} {s s' : Bool} {v u : Value} (h : RatAt W base g s s' v u n d) (hz : W.heap.size ≤ W'.heap.size) (hk : ∀ k, (k = g ∨ v.ownBlock = some k ∨ u.ownBlock = some k) → W'.heap[k]? = W.heap[k]?) : RatAt W' base g s s' v u n d := by
 have kk : Keeps (fun k => ¬ (k = g ∨ v.ownBlock = some k ∨ u.ownBlock = some k)) W { W' with os := W.os, tape := W.tape, output := W.output } := ⟨rfl, rfl, rfl, hz, fun k _ hT => hk k (Classical.not_not.1 hT)⟩
 have h1 := h.kept kk (fun e => e (.inl rfl)) (fun k hk e => e (.inr (.inl hk))) (fun k hk e => e (.inr (.inr hk)))
 exact ⟨⟨h1.num.known, h1.num.neg, h1.num.abs, h1.num.nat⟩, ⟨h1.den.known, h1.den.neg, h1.den.abs, h1.den.nat⟩, h1.ap⟩
theorem Thr.same {W W' : World} (h : Thr W) (hk : ∀ k, k < GL → W'.heap[k]? = W.heap[k]?) : Thr W' :=
 ⟨(World.cell?_of_block (hk _ (by decide))).trans h.div, (World.cell?_of_block (hk _ (by decide))).trans h.mul, (World.cell?_of_block (hk _ (by decide))).trans h.sqr, (World.cell?_of_block (hk _ (by decide))).trans h.sqrK⟩
def FixR (w : World) (n d N sc : Nat) (s : Bool) (size : Nat) (x : Value) (B : Nat) (W : World) : Prop := ∃ br gr v u, x = .iface 98 (.pointer (some ⟨gr, 0, none⟩)) ∧ FixArg W br gr n d N sc s v u size ∧ Thr W ∧ GL ≤ w.heap.size ∧ w.heap.size ≤ B ∧
 (∀ k, (k = gr ∨ v.ownBlock = some k ∨ u.ownBlock = some k) → w.heap.size + 4 ≤ k ∧ k < B)
theorem FixR.stays {w : World} {n d N sc size B : Nat} {s : Bool} {x : Value} {W W' : World} (h : FixR w n d N sc s size x B W) (hs : Stays w 4 B W W') : FixR w n d N sc s size x B W' := by
 obtain ⟨br, gr, v, u, rfl, ha, hg, h1, h2, h3⟩ := h
 exact ⟨br, gr, v, u, rfl, ⟨ha.rat.same hs.size (fun k hk => hs.blk k (h3 k hk).2 (.inr (h3 k hk).1)), ha.sc15, ha.d0, ha.dW, ha.eq, ha.ln, ha.le, ha.lt⟩, hg.same (fun k hk => hs.blk k (by omega) (.inl (by omega))), h1, h2, h3⟩
theorem fbFixed8 (w : World) (n d N sc : Nat) (s : Bool) (cs : Array Value) (hcs : cs.size = 22) (hsc : sc ≤ 15)
  (hany : ∀ W : World, Below w.heap.size w W → w.heap.size + 4 ≤ W.heap.size → Calls Tryz.prog 22 #[.agg cs] W fun e w' => ∃ x, e = .returned (.tuple #[x, .bool true]) ∧ FixR w n d N sc s 8 x w'.heap.size w' ∧ Below W.heap.size W w') :
  Calls Tryz.prog 8 #[.int .i64 81, .agg cs, .int .i64 38, .int .i64 sc] w fun e w' =>
   ∃ v, e = .returned (.tuple #[v, .int .i64 8, .int .i64 0]) ∧ w'.ownsRow w.heap.size 5 1 v ([81] ++ leB (zOf s N) 8).length (u8s ([81] ++ leB (zOf s N) 8)) ∧ Below w.heap.size w w' := by
 refine fbCoreT w 81 38 sc 8 cs hcs ([81] ++ leB (zOf s N) 8) (fun x B W => FixR w n d N sc s 8 x B W) (by decide) (by decide) (by omega) (by omega) (by decide) (by decide) hany (fun _ _ _ _ h hs => h.stays hs) ?_ ?_
 ·intro W x B F hF hR
  obtain ⟨br, gr, v, u, rfl, -⟩ := hR
  exact (sizeFixed8 W F _ hF.cells.2.2).mono fun e w' ⟨h1, h2⟩ => ⟨h1, h2 ▸ Below.refl _ W⟩
 ·intro W x base B E S Wr F tr _ hF hFb hB hR hE
  obtain ⟨br, gr, v, u, rfl, ha, hg, h1, h2, h3⟩ := hR
  exact zzFieldBytes_any W _ _ _ _ ((prmFixed8 W base E S Wr F br gr n d N sc tr v u [] s hE ha hg (by omega) (by simp) (by have := h3 gr (.inl rfl); omega) (fun k hk => by have := h3 k (.inr (.inl hk)); omega) (fun k hk => by have := h3 k (.inr (.inr hk)); omega) hF.cells.2.2 hF.cells.1 hF.cells.2.1 hFb).mono fun e w' h => by simpa using h)
theorem fbFixed12 (w : World) (n d N sc : Nat) (s : Bool) (cs : Array Value) (hcs : cs.size = 22) (hsc : sc ≤ 15)
  (hany : ∀ W : World, Below w.heap.size w W → w.heap.size + 4 ≤ W.heap.size → Calls Tryz.prog 22 #[.agg cs] W fun e w' => ∃ x, e = .returned (.tuple #[x, .bool true]) ∧ FixR w n d N sc s 12 x w'.heap.size w' ∧ Below W.heap.size W w') :
  Calls Tryz.prog 8 #[.int .i64 82, .agg cs, .int .i64 38, .int .i64 sc] w fun e w' =>
   ∃ v, e = .returned (.tuple #[v, .int .i64 12, .int .i64 0]) ∧ w'.ownsRow w.heap.size 5 1 v ([82] ++ leB (zOf s N) 12).length (u8s ([82] ++ leB (zOf s N) 12)) ∧ Below w.heap.size w w' := by
 refine fbCoreT w 82 38 sc 12 cs hcs ([82] ++ leB (zOf s N) 12) (fun x B W => FixR w n d N sc s 12 x B W) (by decide) (by decide) (by omega) (by omega) (by decide) (by decide) hany (fun _ _ _ _ h hs => h.stays hs) ?_ ?_
 ·intro W x B F hF hR
  obtain ⟨br, gr, v, u, rfl, -⟩ := hR
  exact (sizeFixed12 W F _ hF.cells.2.2).mono fun e w' ⟨h1, h2⟩ => ⟨h1, h2 ▸ Below.refl _ W⟩
 ·intro W x base B E S Wr F tr _ hF hFb hB hR hE
  obtain ⟨br, gr, v, u, rfl, ha, hg, h1, h2, h3⟩ := hR
  exact zzFieldBytes_any W _ _ _ _ ((prmFixed12 W base E S Wr F br gr n d N sc tr v u [] s hE ha hg (by omega) (by simp) (by have := h3 gr (.inl rfl); omega) (fun k hk => by have := h3 k (.inr (.inl hk)); omega) (fun k hk => by have := h3 k (.inr (.inr hk)); omega) hF.cells.2.2 hF.cells.1 hF.cells.2.1 hFb).mono fun e w' h => by simpa using h)
theorem fbFixed16 (w : World) (n d N sc : Nat) (s : Bool) (cs : Array Value) (hcs : cs.size = 22) (hsc : sc ≤ 15)
  (hany : ∀ W : World, Below w.heap.size w W → w.heap.size + 4 ≤ W.heap.size → Calls Tryz.prog 22 #[.agg cs] W fun e w' => ∃ x, e = .returned (.tuple #[x, .bool true]) ∧ FixR w n d N sc s 16 x w'.heap.size w' ∧ Below W.heap.size W w') :
  Calls Tryz.prog 8 #[.int .i64 76, .agg cs, .int .i64 38, .int .i64 sc] w fun e w' =>
   ∃ v, e = .returned (.tuple #[v, .int .i64 16, .int .i64 0]) ∧ w'.ownsRow w.heap.size 5 1 v ([76] ++ leB (zOf s N) 16).length (u8s ([76] ++ leB (zOf s N) 16)) ∧ Below w.heap.size w w' := by
 refine fbCoreT w 76 38 sc 16 cs hcs ([76] ++ leB (zOf s N) 16) (fun x B W => FixR w n d N sc s 16 x B W) (by decide) (by decide) (by omega) (by omega) (by decide) (by decide) hany (fun _ _ _ _ h hs => h.stays hs) ?_ ?_
 ·intro W x B F hF hR
  obtain ⟨br, gr, v, u, rfl, -⟩ := hR
  exact (sizeFixed16 W F _ hF.cells.2.2).mono fun e w' ⟨h1, h2⟩ => ⟨h1, h2 ▸ Below.refl _ W⟩
 ·intro W x base B E S Wr F tr _ hF hFb hB hR hE
  obtain ⟨br, gr, v, u, rfl, ha, hg, h1, h2, h3⟩ := hR
  exact zzFieldBytes_any W _ _ _ _ ((prmFixed16 W base E S Wr F br gr n d N sc tr v u [] s hE ha hg (by omega) (by simp) (by have := h3 gr (.inl rfl); omega) (fun k hk => by have := h3 k (.inr (.inl hk)); omega) (fun k hk => by have := h3 k (.inr (.inr hk)); omega) hF.cells.2.2 hF.cells.1 hF.cells.2.1 hFb).mono fun e w' h => by simpa using h)
end Go.Proofs.YthocmhkafgpgbaaGreatDoor
namespace Go.Proofs.YthocmhkafgpgbaaGreatDoor
open Go.RowKit
@[go_sem] theorem as_r_b (v : Value) (w : World) : (Instr.typeAssert (.iface 98 v) 20 4 true).run Tryz.prog w = .ok (.tuple #[.bool false, .bool false]) w := by kernel_rfl
@[go_sem] theorem as_r_i (v : Value) (w : World) : (Instr.typeAssert (.iface 98 v) 20 2 true).run Tryz.prog w = .ok (.tuple #[.int .i64 0, .bool false]) w := by kernel_rfl
@[go_sem] theorem as_r_f (v : Value) (w : World) : (Instr.typeAssert (.iface 98 v) 20 45 true).run Tryz.prog w = .ok (.tuple #[.float .f64 0, .bool false]) w := by kernel_rfl
@[go_sem] theorem as_r_s (v : Value) (w : World) : (Instr.typeAssert (.iface 98 v) 20 22 true).run Tryz.prog w = .ok (.tuple #[.slice none 0 0, .bool false]) w := by kernel_rfl
@[go_sem] theorem as_r_t (v : Value) (w : World) : (Instr.typeAssert (.iface 98 v) 20 9 true).run Tryz.prog w = .ok (.tuple #[.string ⟨#[]⟩, .bool false]) w := by kernel_rfl
@[go_sem] theorem as_r_m (v : Value) (w : World) : (Instr.typeAssert (.iface 98 v) 20 95 true).run Tryz.prog w = .ok (.tuple #[.agg #[.int .i64 0, .int .i64 0], .bool false]) w := by kernel_rfl
def ratVal (s : Bool) (v u : Value) : Array Value := valCells 7 false 0 0 (.slice none 0 0) ⟨#[]⟩ s v u
theorem rat1 (s : Bool) (A : Option Addr) (n c : Nat) (B : Option Addr) (m d : Nat) : (ratVal s (.slice A n c) (.slice B m d)).all (·.oneCell') = true := by
 simp [ratVal, valCells, Value.oneCell']
set_option maxRecDepth 100000 in
theorem valOf7 (w : World) (base g n d : Nat) (s : Bool) (v u : Value) (h : RatAt w base g s false v u n d) (hs : s = true → n ≠ 0) (hd : d ≠ 0) (hle : (digs WB n).length ≤ 1000) (hle2 : (digs WB d).length ≤ 1000) :
  Calls Tryz.prog 34 #[.iface 98 (.pointer (some ⟨g, 0, none⟩))] w fun e w' => ∃ b p c b' p' c' : Nat, e = .returned (.agg (ratVal s (.slice (some ⟨b, p, none⟩) (beB n).length c) (.slice (some ⟨b', p', none⟩) (beB d).length c'))) ∧ (beB n).length ≤ c ∧ VecB w' b p (beB n) ∧ w.heap.size ≤ b ∧ (beB d).length ≤ c' ∧ VecB w' b' p' (beB d) ∧ w.heap.size ≤ b' ∧ Below w.heap.size w w' := by
 have k0 := (Keeps.refl (fun _ => False) w).alloc (.cells noVal 52)
 have hB := Lib.hid (ratBack_any (w.alloc (.cells noVal 52)) base g n d s v u (h.kept k0 (fun h => h) (fun _ _ h => h) (fun _ _ h => h)) hs hd hle hle2)
 have q : (w.alloc (.cells noVal 52)).heap[w.heap.size]? = some (.cells noVal 52 (0, 0)) := blk_new _ _
 replace k0 := Lib.hid k0
 clear h hs hd hle hle2
 go_enter Tryz.func34, Tryz.ntmps34
 go_wp2_with fail
 refine hB.out.mono ?_
 rintro e w1 ⟨b, p, c, b', p', c', rfl, hc, hv, hlb, hc', hv', hlb', hk⟩
 have q1 := (hk.blk _ (sizeOf_blk q) (fun h => h)).trans q
 have l0 := sizeOf_blk q
 have hend := Lib.hid (And.intro hc (And.intro hv (And.intro hlb (And.intro hc' (And.intro hv' (And.intro hlb' hk))))))
 clear hc hv hlb hc' hv' hlb' hk q hB
 go_wp2_with (refine store_val rfl (.tmp 2) _ rfl _ rfl (ratVal s (.slice (some ⟨b, p, none⟩) (beB n).length c) (.slice (some ⟨b', p', none⟩) (beB d).length c')) rfl noVal q1 rfl rfl (rat1 _ _ _ _ _ _ _) ?_)
 obtain ⟨hc, hv, hlb, hc', hv', hlb', hk⟩ := hend.out
 have hb8 : Below w.heap.size w1 (w1.setRow w.heap.size (ratVal s (.slice (some ⟨b, p, none⟩) (beB n).length c) (.slice (some ⟨b', p', none⟩) (beB d).length c'))) := below_setRow (Below.refl _ w1) (Nat.le_refl _) _
 have hk8 : Keeps (fun k => k = w.heap.size) w1 (w1.setRow w.heap.size (ratVal s (.slice (some ⟨b, p, none⟩) (beB n).length c) (.slice (some ⟨b', p', none⟩) (beB d).length c'))) := ⟨hb8.os, hb8.tape, hb8.output, hb8.size, fun k hk hT => setRow_other _ _ _ _ (by omega)⟩
 have k01 := k0.out.trans hk (fun _ _ h => h)
 have z0 := k0.out.size
 exact ⟨rfl, _, results_val _ _ _ rfl (setRow_heap _ _ _ _ _ _ q1) _ rfl, ⟨b, p, c, b', p', c', rfl, hc, fun j hj => hk8.cellS (hv j hj) (fun e => by have e' : b = w.heap.size := e; omega), by omega, hc', fun j hj => hk8.cellS (hv' j hj) (fun e => by have e' : b' = w.heap.size := e; omega), by omega, (k01.below (Nat.le_refl _) (fun _ _ h => h.elim)).trans hb8⟩⟩
set_option maxRecDepth 100000 in
theorem resFixed8 (W : World) (base D S rb ro n c : Nat) (tr : Value) (dfv emp : Bool) (bs : List Int) (N sc : Nat) (s : Bool) (hb0 : bs[0]? = some 1) (hx : (bs.drop 1).take 8 = leB (zOf s N) 8) (hN : N < 256 ^ (7)) (hsc : sc ≤ 15) (hg : Thr W) (hGL : GL ≤ base) (hbw : base ≤ W.heap.size) (hkn : 9 ≤ n) (hrb : rb < base)
  (h : DecAt W base D S rb ro n c tr dfv emp 0) (hin : Input W rb ro n c bs) :
  Calls Tryz.prog 53 #[.int .u8 81, .pointer (some ⟨D, 0, none⟩), .nilIface, .int .i64 0, .int .i64 sc] W fun e w' =>
   ∃ x y, e = .returned (.tuple #[x, y]) ∧ (∃ g v u b, x = .iface 98 (.pointer (some ⟨g, 0, none⟩)) ∧ RatAt w' b g (decide (N ≠ 0) && s) false v u (N / Nat.gcd N (10 ^ sc)) (10 ^ sc / Nat.gcd N (10 ^ sc)) ∧ W.heap.size ≤ b ∧ W.heap.size ≤ g) ∧ y = .nilIface ∧ DecAt w' base D S rb ro n c tr dfv emp (9) ∧ Below base W w' := by
 have hF := Lib.hid (decFixed8_any W base D S rb ro n c tr dfv emp 0 bs N sc s hb0 hx hN hsc hg hGL hbw h hin hrb (by omega))
 clear hb0 hx hN hg hGL hbw hkn hrb h hin
 go_enter Tryz.func53, Tryz.ntmps53
 go_wp2_with fail
 refine hF.out.mono ?_
 rintro e w1 ⟨g, v, u, b, rfl, hr, h1, h2, hd, hb⟩
 have hend := Lib.hid (And.intro hr (And.intro h1 (And.intro h2 (And.intro (show DecAt w1 base D S rb ro n c tr dfv emp (9) by simpa using hd) hb))))
 clear hr h1 h2 hd hb hF
 go_wp2_with fail
 go_ret2
 obtain ⟨hr, h1, h2, hd, hb⟩ := hend.out
 exact ⟨_, _, rfl, ⟨g, v, u, b, rfl, hr, h1, h2⟩, rfl, hd, hb⟩
set_option maxRecDepth 100000 in
theorem resFixed12 (W : World) (base D S rb ro n c : Nat) (tr : Value) (dfv emp : Bool) (bs : List Int) (N sc : Nat) (s : Bool) (hb0 : bs[0]? = some 1) (hx : (bs.drop 1).take 12 = leB (zOf s N) 12) (hN : N < 256 ^ (11)) (hsc : sc ≤ 15) (hg : Thr W) (hGL : GL ≤ base) (hbw : base ≤ W.heap.size) (hkn : 13 ≤ n) (hrb : rb < base)
  (h : DecAt W base D S rb ro n c tr dfv emp 0) (hin : Input W rb ro n c bs) :
  Calls Tryz.prog 53 #[.int .u8 82, .pointer (some ⟨D, 0, none⟩), .nilIface, .int .i64 0, .int .i64 sc] W fun e w' =>
   ∃ x y, e = .returned (.tuple #[x, y]) ∧ (∃ g v u b, x = .iface 98 (.pointer (some ⟨g, 0, none⟩)) ∧ RatAt w' b g (decide (N ≠ 0) && s) false v u (N / Nat.gcd N (10 ^ sc)) (10 ^ sc / Nat.gcd N (10 ^ sc)) ∧ W.heap.size ≤ b ∧ W.heap.size ≤ g) ∧ y = .nilIface ∧ DecAt w' base D S rb ro n c tr dfv emp (13) ∧ Below base W w' := by
 have hF := Lib.hid (decFixed12_any W base D S rb ro n c tr dfv emp 0 bs N sc s hb0 hx hN hsc hg hGL hbw h hin hrb (by omega))
 clear hb0 hx hN hg hGL hbw hkn hrb h hin
 go_enter Tryz.func53, Tryz.ntmps53
 go_wp2_with fail
 refine hF.out.mono ?_
 rintro e w1 ⟨g, v, u, b, rfl, hr, h1, h2, hd, hb⟩
 have hend := Lib.hid (And.intro hr (And.intro h1 (And.intro h2 (And.intro (show DecAt w1 base D S rb ro n c tr dfv emp (13) by simpa using hd) hb))))
 clear hr h1 h2 hd hb hF
 go_wp2_with fail
 go_ret2
 obtain ⟨hr, h1, h2, hd, hb⟩ := hend.out
 exact ⟨_, _, rfl, ⟨g, v, u, b, rfl, hr, h1, h2⟩, rfl, hd, hb⟩
set_option maxRecDepth 100000 in
theorem resFixed16 (W : World) (base D S rb ro n c : Nat) (tr : Value) (dfv emp : Bool) (bs : List Int) (N sc : Nat) (s : Bool) (hb0 : bs[0]? = some 1) (hx : (bs.drop 1).take 16 = leB (zOf s N) 16) (hN : N < 256 ^ (15)) (hsc : sc ≤ 15) (hg : Thr W) (hGL : GL ≤ base) (hbw : base ≤ W.heap.size) (hkn : 17 ≤ n) (hrb : rb < base)
  (h : DecAt W base D S rb ro n c tr dfv emp 0) (hin : Input W rb ro n c bs) :
  Calls Tryz.prog 53 #[.int .u8 76, .pointer (some ⟨D, 0, none⟩), .nilIface, .int .i64 0, .int .i64 sc] W fun e w' =>
   ∃ x y, e = .returned (.tuple #[x, y]) ∧ (∃ g v u b, x = .iface 98 (.pointer (some ⟨g, 0, none⟩)) ∧ RatAt w' b g (decide (N ≠ 0) && s) false v u (N / Nat.gcd N (10 ^ sc)) (10 ^ sc / Nat.gcd N (10 ^ sc)) ∧ W.heap.size ≤ b ∧ W.heap.size ≤ g) ∧ y = .nilIface ∧ DecAt w' base D S rb ro n c tr dfv emp (17) ∧ Below base W w' := by
 have hF := Lib.hid (decFixed16_any W base D S rb ro n c tr dfv emp 0 bs N sc s hb0 hx hN hsc hg hGL hbw h hin hrb (by omega))
 clear hb0 hx hN hg hGL hbw hkn hrb h hin
 go_enter Tryz.func53, Tryz.ntmps53
 go_wp2_with fail
 refine hF.out.mono ?_
 rintro e w1 ⟨g, v, u, b, rfl, hr, h1, h2, hd, hb⟩
 have hend := Lib.hid (And.intro hr (And.intro h1 (And.intro h2 (And.intro (show DecAt w1 base D S rb ro n c tr dfv emp (17) by simpa using hd) hb))))
 clear hr h1 h2 hd hb hF
 go_wp2_with fail
 go_ret2
 obtain ⟨hr, h1, h2, hd, hb⟩ := hend.out
 exact ⟨_, _, rfl, ⟨g, v, u, b, rfl, hr, h1, h2⟩, rfl, hd, hb⟩
end Go.Proofs.YthocmhkafgpgbaaGreatDoor
