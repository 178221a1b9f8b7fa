/- Parts of the walk. -/
import Derived.Test.YtgamldefngehlaaGreatDoorM26
import Derived.Test.YtgamldefngehlaaGreatDoorM28
import Derived.Test.YtgamldefngehlaaGreatDoorM30
set_option linter.unusedVariables false
set_option linter.unusedSimpArgs false
namespace Go.Proofs.YtgamldefngehlaaGreatDoor
open Go.RowKit
set_option maxRecDepth 100000 in
theorem resDecD (W : World) (base D S rb ro n c : Nat) (tr : Value) (dfv emp : Bool) (k : Nat) (bs : List Int) (M X : Nat) (s : Bool) (hx : (bs.drop k).take 16 = decB s M X) (hX : 6116 ≤ X ∧ X < 6271) (hM : M < 256 ^ 14) (hg : Thr W) (hGL : GL ≤ base) (hbw : base ≤ W.heap.size) (hkn : k + 16 ≤ n)
  (h : DecAt W base D S rb ro n c tr dfv emp k) (hin : Input W rb ro n c bs) :
  Calls Tryz.prog 56 #[.int .u8 5, .pointer (some ⟨D, 0, none⟩), .nilIface, .int .i64 0, .int .i64 0] W fun e w' =>
   ∃ x y, e = .returned (.tuple #[x, y]) ∧ (∃ g v u b, x = .iface 93 (.pointer (some ⟨g, 0, none⟩)) ∧ RatAt w' b g (decide (M ≠ 0) && s) false v u (decNum M X) (decDen X)) ∧ y = .nilIface ∧ DecAt w' base D S rb ro n c tr dfv emp (k + 16) ∧ Below base W w' := by
 have hF := Lib.hid (decD_any W base D S rb ro n c tr dfv emp k bs s M X hx hX hM h hin hkn hg hGL hbw)
 clear hx hM hg hGL hbw hkn h hin
 go_enter Tryz.func56, Tryz.ntmps56
 go_wp2_with fail
 refine hF.out.mono ?_
 rintro e w1 ⟨g, v, u, rfl, hr, h1, hd, hb⟩
 have hend := Lib.hid (And.intro hr (And.intro hd hb))
 clear hr h1 hd hb hF
 go_wp2_with fail
 go_ret2
 obtain ⟨hr, hd, hb⟩ := hend.out
 exact ⟨_, _, rfl, ⟨g, v, u, _, rfl, hr⟩, rfl, hd, hb⟩
theorem roDecimal (w : World) (M X : Nat) (s : Bool) (hX : 6116 ≤ X ∧ X < 6271) (hM : M < 256 ^ 14) (hg : Thr w) (hGL : GL ≤ w.heap.size) (rb ro c : Nat) (hin : Input w rb ro 16 c (decB s M X)) (hrb : rb < w.heap.size) :
  Calls Tryz.prog 11 #[.int .i64 5, .slice (some ⟨rb, ro, none⟩) (16 : Nat) c, .int .i64 0, .bool false, .bool false] w fun e w' =>
   ∃ v B, e = .returned (.tuple #[.agg v, .int .i64 (16 : Nat), .int .i64 0]) ∧ RatVal w (decide (M ≠ 0) && s) (decNum M X) (decDen X) v B w' ∧ Below w.heap.size w w' := by
 have hlen := decB_len s M X
 refine (roCoreT w 5 0 16 rb ro 16 c false false (decB s M X) hin hrb (by decide) (by decide) (by decide) (by decide) (by decide) (fun x B W => ∃ g v u b, x = .iface 93 (.pointer (some ⟨g, 0, none⟩)) ∧ RatAt W b g (decide (M ≠ 0) && s) false v u (decNum M X) (decDen X)) (fun v B W => RatVal w (decide (M ≠ 0) && s) (decNum M X) (decDen X) v B W) ?_ ?_ (fun _ _ _ _ h hs => h.stays hs)).mono ?_
 ·intro W base D S tr _ hrb' hbW hbs hD hin'
  have hbw : base ≤ W.heap.size := by have h1 := hD.lo.1; have h2 := sizeOf_blk hD.dec; omega
  refine (zzResultOf_any W _ _ _ (fun x y w' => (∃ g v u b, x = .iface 93 (.pointer (some ⟨g, 0, none⟩)) ∧ RatAt w' b g (decide (M ≠ 0) && s) false v u (decNum M X) (decDen X)) ∧ y = .nilIface ∧ DecAt w' base D S rb ro 16 c tr false false 16 ∧ Below base W w')
   ((resDecD W base D S rb ro 16 c tr false false 0 _ M X s (by simp [List.take_of_length_le, hlen]) hX hM (hg.below hbW hGL) (by omega) hbw (by omega) hD hin').mono fun e w' ⟨x, y, h1, h2, h6, h7, h8⟩ => ⟨x, y, h1, h2, h6, h7, h8⟩)).mono ?_
  rintro e w' ⟨x, y, h1, h2, h3, h4, h5⟩
  exact ⟨x, y, h1, h3, h2, h4, h5⟩
 ·rintro W B x ⟨g, v, u, b, rfl, hr⟩ hB hz
  exact valDec w W M X s hX hM b g v u hr hz
 ·rintro e w' ⟨v, B, rfl, _, hv, _, hb⟩
  exact ⟨v, B, rfl, hv, hb⟩
end Go.Proofs.YtgamldefngehlaaGreatDoor
namespace Go.Proofs.YtgamldefngehlaaGreatDoor
open Go.RowKit
theorem pow10_pos (sc : Nat) : 0 < 10 ^ sc := Nat.pow_pos (by omega)
theorem beB_len {n k : Nat} (h : n < 256 ^ k) : (beB n).length ≤ k := by rw [beB_length]; exact (digs_length_le (by omega)).2 h
def lawNum (N : Nat) (e : Int) : Nat := N * 10 ^ e.toNat
def lawDen (e : Int) : Nat := 10 ^ (-e).toNat
theorem ten_le {a b : Nat} (h : a ≤ b) : 10 ^ a ≤ 10 ^ b := Nat.pow_le_pow_right (by omega) h
theorem lawNum_lt {N : Nat} {e : Int} (hN : N < 256 ^ 14) (he : e ≤ 60) : lawNum N e < 256 ^ 14 * 10 ^ 60 :=
 Nat.lt_of_lt_of_le (Nat.mul_lt_mul_of_pos_right hN (pow10_pos _)) (Nat.mul_le_mul_left _ (ten_le (by omega)))
theorem lawDen_le {e : Int} (he : -60 ≤ e) : lawDen e ≤ 10 ^ 60 := ten_le (by omega)
theorem lawDen_pos (e : Int) : lawDen e ≠ 0 := Nat.pos_iff_ne_zero.1 (pow10_pos _)
theorem k256 : (256 ^ 14 * 10 ^ 60 : Nat) < 256 ^ 40 := by decide +kernel
theorem kten256 : (10 ^ 60 : Nat) < 256 ^ 32 := by decide +kernel
theorem kLB : (256 ^ 14 * 10 ^ 60 : Nat) < LB ^ 12 := by rw [LB_eq]; decide +kernel
theorem ktenLB : (10 ^ 60 : Nat) < LB ^ 7 := by rw [LB_eq]; decide +kernel
theorem kWB : (256 ^ 14 * 10 ^ 60 : Nat) < WB ^ 5 := by rw [WB_eq]; decide +kernel
theorem ktenWB : (10 ^ 60 : Nat) < WB ^ 4 := by rw [WB_eq]; decide +kernel
theorem law_in {N : Nat} {e : Int} (hN : N < 256 ^ 14) (h1 : -60 ≤ e) (h2 : e ≤ 60) (s : Bool) : ∃ M X, DecIn (lawNum N e) (lawDen e) N (-e).toNat e.toNat M X s ∧ (6116 ≤ X ∧ X < 6271) ∧ M < 256 ^ 14 ∧ (M ≠ 0 ↔ N ≠ 0) ∧ lawNum N e * decDen X = decNum M X * lawDen e := by
 have hln : (digs WB (lawNum N e)).length ≤ 5 := (digs_length_le WB_one).2 (Nat.lt_trans (lawNum_lt hN h2) kWB)
 have hld : (digs WB (lawDen e)).length ≤ 4 := (digs_length_le WB_one).2 (Nat.lt_of_le_of_lt (lawDen_le h1) ktenWB)
 have hfew : lawDen e = 1 ∨ (digs WB (lawNum N e)).length ≤ 3 := by
  rcases Int.lt_or_le e 0 with h | h
  ·right
   have : lawNum N e = N := by unfold lawNum; rw [show e.toNat = 0 by omega, Nat.pow_zero, Nat.mul_one]
   rw [this]
   exact (digs_length_le WB_one).2 (Nat.lt_trans hN (by rw [WB_eq]; decide +kernel))
  ·left
   unfold lawDen
   rw [show (-e).toNat = 0 by omega, Nat.pow_zero]
 have heq : lawNum N e * 10 ^ (-e).toNat = lawDen e * N * 10 ^ e.toNat := by unfold lawNum lawDen; ac_rfl
 by_cases h0 : N = 0
 ·subst h0
  refine ⟨0, 6176, ⟨heq, hN, by omega, by omega, lawDen_pos e, hln, hld, hfew, .inr ⟨by unfold lawNum; rw [Nat.zero_mul], rfl, rfl⟩⟩, by omega, by decide, Iff.rfl, ?_⟩
  unfold lawNum decNum; simp
 ·obtain ⟨M, X, hD⟩ := DecOf.ex (k1 := (-e).toNat) (k2 := e.toNat) h0 (Nat.lt_trans hN (by decide +kernel)) (by omega) (by omega)
  refine ⟨M, X, ⟨heq, hN, by omega, by omega, lawDen_pos e, hln, hld, hfew, .inl ⟨Nat.mul_ne_zero h0 (Nat.pos_iff_ne_zero.1 (pow10_pos _)), hD⟩⟩, hD.xl, Nat.lt_of_le_of_lt hD.le hN, ⟨fun _ => h0, fun _ => hD.m0⟩, ?_⟩
  obtain ⟨j, t, e1, e2⟩ := hD.eq
  unfold lawNum decNum decDen lawDen
  generalize ha : ((X : Int) - 6176).toNat = a
  generalize hb : (-((X : Int) - 6176)).toNat = b
  have h3 : a + (-e).toNat + t = b + e.toNat + j := by omega
  generalize (-e).toNat = k1 at *
  generalize e.toNat = k2 at *
  refine Nat.eq_of_mul_eq_mul_right (pow10_pos t) ?_
  calc N * 10 ^ k2 * 10 ^ b * 10 ^ t = (N * 10 ^ t) * (10 ^ b * 10 ^ k2) := by ac_rfl
   _ = M * 10 ^ j * (10 ^ b * 10 ^ k2) := by rw [e1]
   _ = M * 10 ^ (b + k2 + j) := by rw [Nat.pow_add, Nat.pow_add]; ac_rfl
   _ = M * 10 ^ (a + k1 + t) := by rw [h3]
   _ = M * 10 ^ a * 10 ^ k1 * 10 ^ t := by rw [Nat.pow_add, Nat.pow_add]; ac_rfl
theorem fbDecAny (w : World) (neg : Bool) (v u : Value) (P Q wm k1 k2 M X : Nat) (h : BytesIn w v (beB P)) (hd : BytesIn w u (beB Q)) (hP : P < 256 ^ 40) (hQ : Q < 256 ^ 40) (hI : DecIn P Q wm k1 k2 M X neg) (hneg : neg = true → P ≠ 0) (hg : Thr w) (hGL : GL ≤ w.heap.size) :
  Calls Tryz.prog 7 #[.int .i64 5, .agg (ratVal neg v u), .int .i64 0, .int .i64 0] w fun e w' =>
   ∃ r, e = .returned (.tuple #[r, .int .i64 16, .int .i64 0]) ∧ w'.ownsRow w.heap.size 5 1 r ([5] ++ decB neg M X).length (u8s ([5] ++ decB neg M X)) ∧ Below w.heap.size w w' := by
 have hz : (neg && decide (P ≠ 0)) = neg := by
  cases neg with
  | false => rfl
  | true => rw [decide_eq_true (hneg rfl)]; rfl
 have := fbValD w neg v u (beB P) (beB Q) wm k1 k2 M X h hd (Nat.le_trans (beB_len hP) (by omega)) (Nat.le_trans (beB_len hQ) (by omega)) (by rw [beB_val, beB_val, hz]; exact hI) hg hGL
 rw [beB_val, hz] at this
 exact this
theorem sg_dec {neg : Bool} {M : Nat} (hneg : neg = true → M ≠ 0) : (decide (M ≠ 0) && neg) = neg := by
 cases neg with
 | false => simp
 | true => rw [decide_eq_true (hneg rfl)]; rfl
theorem foDecAny (w : World) (neg : Bool) (M X : Nat) (hneg : neg = true → M ≠ 0) (hX : 6116 ≤ X ∧ X < 6271) (hM : M < 256 ^ 14) (hg : Thr w) (hGL : GL ≤ w.heap.size) (rb ro c : Nat) (hin : Input w rb ro 17 c ([5] ++ decB neg M X)) (hrb : rb < w.heap.size) :
  Calls Tryz.prog 9 #[.int .i64 5, .slice (some ⟨rb, ro, none⟩) (17 : Nat) c, .int .i64 0, .bool false, .bool false] w fun e w' =>
   ∃ v B, e = .returned (.tuple #[.agg v, .int .i64 (17 : Nat), .int .i64 0]) ∧ RatVal w neg (decNum M X) (decDen X) v B w' ∧ Below w.heap.size w w' := by
 have := foDecimal w M X neg hX hM hg hGL rb ro c hin hrb
 rw [sg_dec hneg] at this
 exact this
theorem roDecAny (w : World) (neg : Bool) (M X : Nat) (hneg : neg = true → M ≠ 0) (hX : 6116 ≤ X ∧ X < 6271) (hM : M < 256 ^ 14) (hg : Thr w) (hGL : GL ≤ w.heap.size) (rb ro c : Nat) (hin : Input w rb ro 16 c (decB neg M X)) (hrb : rb < w.heap.size) :
  Calls Tryz.prog 11 #[.int .i64 5, .slice (some ⟨rb, ro, none⟩) (16 : Nat) c, .int .i64 0, .bool false, .bool false] w fun e w' =>
   ∃ v B, e = .returned (.tuple #[.agg v, .int .i64 (16 : Nat), .int .i64 0]) ∧ RatVal w neg (decNum M X) (decDen X) v B w' ∧ Below w.heap.size w w' := by
 have := roDecimal w M X neg hX hM hg hGL rb ro c hin hrb
 rw [sg_dec hneg] at this
 exact this
end Go.Proofs.YtgamldefngehlaaGreatDoor
namespace Go.Proofs.YtgamldefngehlaaGreatDoor
open Go.RowKit Go.Proofs.YtgamldefngehlaaGreatDoorW.PrintWords
def Reads (k : IntKind) (w : World) (v : Value) (xs : List Nat) : Prop := ∃ A c, v = .slice A xs.length c ∧ xs.length ≤ c ∧ (Kd.int k).C w A xs.length (il xs)
theorem Reads.below {k : IntKind} {w w' : World} {v : Value} {xs : List Nat} (h : Reads k w v xs) (hb : Below w.heap.size w w') : Reads k w' v xs := by
 obtain ⟨A, c, rfl, hc, hr⟩ := h
 exact ⟨A, c, rfl, hc, Kd.C_below hr hb⟩
theorem Reads.of_R {k : IntKind} {e : Nat} {w : World} {base : Nat} {ok : Nat → Prop} {v : Value} {xs : List Nat} (h : (Kd.int k).R e w base ok v (il xs)) : Reads k w v xs := by
 obtain ⟨A, c, rfl, hl, hr⟩ := Kd.R_reads h
 rw [il_length] at hl hr
 exact ⟨A, c, by rw [il_length], hl, hr⟩
theorem reads_nil (k : IntKind) (w : World) : Reads k w (.slice none 0 0) [] := ⟨none, 0, rfl, Nat.le_refl _, by simp [il], by simp, fun h => absurd h (Nat.lt_irrefl 0)⟩
theorem reads_cells {k : IntKind} {w : World} {a : Addr} {c : Nat} {xs : List Nat} (hc : xs.length ≤ c) (hm : xs.length ≤ 9223372036854775807) (h : ∀ j (hj : j < xs.length), w.cell? (a.add j) = some (.int k (xs[j] : Int))) : Reads k w (.slice (some a) xs.length c) xs := by
 refine ⟨some a, c, rfl, hc, by simp [il], hm, fun _ => ⟨a, rfl, fun j p hp => ⟨[.int k p], rfl, rfl, fun i u hu => ?_⟩⟩⟩
 obtain ⟨hj, rfl⟩ := List.getElem?_eq_some_iff.1 hp
 rw [il_length] at hj
 have h2 := h j hj
 cases i with
 | zero =>
  simp only [List.getElem?_cons_zero, Option.some.injEq] at hu
  subst hu
  simpa [Kd.int, Kd.scalar, il] using h2
 | succ i => simp at hu
theorem Reads.cells {k : IntKind} {w : World} {a : Option Addr} {n c : Nat} {xs : List Nat} (h : Reads k w (.slice a n c) xs) (j : Nat) (hj : j < xs.length) : ∃ ad, a = some ad ∧ w.cell? (ad.add j) = some (.int k (xs[j] : Int)) := by
 obtain ⟨A, c', he, hc, hr⟩ := h
 injection he with he1 he2
 subst he1
 obtain ⟨ad, e, hcell⟩ := Kd.at_int hr (j : Int) (by omega) (by omega)
 refine ⟨ad, e, ?_⟩
 rw [rd_il] at hcell
 rw [show ((j : Int)).toNat = j by omega] at hcell
 rw [hcell]
 simp [List.getD_eq_getElem?_getD, List.getElem?_eq_getElem hj]
theorem Reads.len {k : IntKind} {w : World} {a : Option Addr} {n c : Nat} {xs : List Nat} (h : Reads k w (.slice a n c) xs) : n = xs.length ∧ n ≤ c := by
 obtain ⟨A, c', he, hc, hr⟩ := h
 injection he with he1 he2 he3
 subst he2 he3
 exact ⟨rfl, hc⟩
def NatS (w : World) (v : Value) (n : Nat) : Prop := Reads .u32 w v (digs LB n)
theorem NatS.below {w w' : World} {v : Value} {n : Nat} (h : NatS w v n) (hb : Below w.heap.size w w') : NatS w' v n := Reads.below h hb
end Go.Proofs.YtgamldefngehlaaGreatDoor
