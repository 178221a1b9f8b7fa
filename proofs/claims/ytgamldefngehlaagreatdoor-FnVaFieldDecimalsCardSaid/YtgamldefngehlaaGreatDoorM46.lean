/- Decimals: the walk of the law. -/
import Derived.Test.YtgamldefngehlaaGreatDoorM45
set_option linter.unusedVariables false
set_option linter.unusedSimpArgs false
namespace Go.Proofs.YtgamldefngehlaaGreatDoor
open Go.RowKit Go.Proofs.YtgamldefngehlaaGreatDoorW.PrintWords Go.Proofs.YtgamldefngehlaaGreatDoorW.PrintMore Go.Proofs.YtgamldefngehlaaGreatDoorW.PrintLast
theorem decFrac_any {w : World} {v : Value} {n : Nat} (neg : Bool) (h : NatS w v n) (hl : (digs LB n).length ≤ 1000) (hneg : neg = true → n ≠ 0) (x : Int) (h1 : -60 ≤ x) (h2 : x ≤ 60) :
  Calls Tryz.prog 6 #[.agg #[.bool neg, v, .int .i64 x]] w fun e w' => ∃ r t, e = .returned (.agg #[.bool neg, r, t]) ∧ NatS w' r (lawNum n x) ∧ NatS w' t (lawDen x) ∧ Below w.heap.size w w' := by
 rcases Int.lt_or_le x 0 with h0 | h0
 ·obtain ⟨s, rfl⟩ : ∃ s : Nat, x = -(s : Int) := ⟨(-x).toNat, by omega⟩
  refine (decFrac1_any neg h (by omega) (by omega)).mono ?_
  rintro e w' ⟨r, rfl, hr, hb⟩
  refine ⟨v, r, rfl, ?_, ?_, hb⟩
  ·unfold lawNum; rw [show (-(s : Int)).toNat = 0 by omega, Nat.pow_zero, Nat.mul_one]; exact h.below hb
  ·unfold lawDen; rw [show (- -(s : Int)).toNat = s by omega]; exact hr
 ·obtain ⟨k, rfl⟩ : ∃ k : Nat, x = (k : Int) := ⟨x.toNat, by omega⟩
  have := decFracE_any neg h hl k (by omega)
  have hz : (neg && decide (n * 10 ^ k ≠ 0)) = neg := by
   cases neg with
   | false => rfl
   | true => rw [decide_eq_true (Nat.mul_ne_zero (hneg rfl) (Nat.pos_iff_ne_zero.1 (pow10_pos k)))]; rfl
  rw [hz] at this
  refine this.mono ?_
  rintro e w' ⟨r, t, rfl, hr, ht, hb⟩
  refine ⟨r, t, rfl, ?_, ?_, hb⟩
  ·unfold lawNum; rw [Int.toNat_natCast]; exact hr
  ·unfold lawDen; rw [show (-(k : Int)).toNat = 0 by omega, Nat.pow_zero]; exact ht
theorem reads_vec {w : World} {b p c : Nat} {ys : List Nat} (h : VecB w b p ys) (hc : ys.length ≤ c) (hl : ys.length ≤ 1000) : Reads .u8 w (.slice (some ⟨b, p, none⟩) ys.length c) ys :=
 reads_cells hc (by omega) (fun j hj => by rw [Addr.add_lit]; exact h j hj)
theorem decNum_lt {M X : Nat} (hM : M < 256 ^ 14) (hX : X < 6271) : decNum M X < 256 ^ 14 * 10 ^ 95 :=
 Nat.lt_of_lt_of_le (Nat.mul_lt_mul_of_pos_right hM (pow10_pos _)) (Nat.mul_le_mul_left _ (ten_le (by omega)))
theorem decDen_le {X : Nat} (hX : 6116 ≤ X) : decDen X ≤ 10 ^ 60 := ten_le (by omega)
theorem k95 : (256 ^ 14 * 10 ^ 95 : Nat) < 256 ^ 60 := by decide +kernel
theorem k95LB : (256 ^ 14 * 10 ^ 95 : Nat) < LB ^ 16 := by rw [LB_eq]; decide +kernel
theorem lbLen {n k : Nat} (h : n < LB ^ k) (hk : k ≤ 1000) : (digs LB n).length ≤ 1000 := Nat.le_trans ((digs_length_le LB_one).2 h) hk
theorem Input.tail1 {w : World} {rb n c : Nat} {x : Int} {bs : List Int} (h : Input w rb 0 (n + 1) c (x :: bs)) : Input w rb 1 n (c - 1) bs :=
 ⟨by simpa using h.len, by have := h.cap; omega, by have := h.big; omega, fun j hj => by
  have := h.cell (j + 1) (by simp; omega)
  simpa [Nat.add_comm] using this⟩
theorem worthBack {w : World} {bn pn kn bd pd kd M X N : Nat} {u' v' : Value} {x : Int} (neg : Bool) (hVn : VecB w bn pn (beB (decNum M X))) (hkn : (beB (decNum M X)).length ≤ kn) (hVd : VecB w bd pd (beB (decDen X))) (hkd : (beB (decDen X)).length ≤ kd)
  (hn : NatS w v' (lawNum N x)) (hd : NatS w u' (lawDen x)) (h1 : -60 ≤ x) (h2 : x ≤ 60) (hN : N < 256 ^ 14) (hX : 6116 ≤ X ∧ X < 6271) (hM : M < 256 ^ 14) (hneg : neg = true → M ≠ 0) (heq : lawNum N x * decDen X = decNum M X * lawDen x) :
  Calls Tryz.prog 10 #[.agg #[.bool neg, .slice (some ⟨bn, pn, none⟩) (beB (decNum M X)).length kn, .slice (some ⟨bd, pd, none⟩) (beB (decDen X)).length kd], .agg #[.bool neg, v', u']] w fun e w' => e = .returned (.bool true) ∧ Below w.heap.size w w' := by
 have a1 := decNum_lt hM hX.2
 have a2 := decDen_le hX.1
 have a3 := lawNum_lt hN h2
 have a4 := lawDen_le h1
 have b1 : (beB (decNum M X)).length ≤ 1000 := Nat.le_trans (beB_len (Nat.lt_trans a1 k95)) (by omega)
 have b2 : (beB (decDen X)).length ≤ 1000 := Nat.le_trans (beB_len (Nat.lt_of_le_of_lt a2 kten256)) (by omega)
 have l5 : decNum M X * lawDen x < LB ^ 23 := by
  rw [show 23 = 16 + 7 from rfl, Nat.pow_add]
  exact Nat.mul_lt_mul'' (Nat.lt_trans a1 k95LB) (Nat.lt_of_le_of_lt a4 ktenLB)
 have r1 := reads_vec hVn hkn b1
 have r2 := reads_vec hVd hkd b2
 have v1 := beB_val (decNum M X)
 have v2 := beB_val (decDen X)
 refine vaWorth_any (n' := lawNum N x) (d' := lawDen x) neg r1 r2 (beB_lt _) (beB_lt _) b1 b2 (okW_beB (fun h => decNum_ne (hneg h))) (by rw [v2]; exact decDen_pos X) hn hd (by rw [v1]; exact lbLen (Nat.lt_trans a1 k95LB) (by omega)) (by rw [v2]; exact lbLen (Nat.lt_of_le_of_lt a2 ktenLB) (by omega))
  (lbLen (Nat.lt_trans a3 kLB) (by omega)) (lbLen (Nat.lt_of_le_of_lt a4 ktenLB) (by omega)) (by rw [v1]; exact lbLen l5 (by omega)) ?_
 rw [v1, v2]
 exact heq
set_option maxRecDepth 100000 in
set_option maxHeartbeats 4000000 in
theorem lawDecimals (w : World) (hT : Thr w) (hGL : GL ≤ w.heap.size) (neg : Bool) (v : Value) (xs : List Nat) (h : Reads .u8 w v xs) (hb : ∀ x ∈ xs, x < 256) (x : Int) :
  Calls Tryz.prog 3 #[.agg #[.bool neg, v], .int .i64 x] w fun e w' => e = .returned (.bool true) ∧ Below w.heap.size w w' := by
 have hF := Lib.hid (fun (W : World) (hW : Below w.heap.size w W) => fits_any (w := W) neg (h.below hW))
 have hR := Lib.hid h
 have hb' := Lib.hid hb
 have hT' := Lib.hid hT
 have hGL' := Lib.hid hGL
 obtain ⟨A, c, rfl, _, _⟩ := h
 clear hb hT hGL
 go_enter Tryz.func3, Tryz.ntmps3
 go_wp2_with fail
 refine (hF.out _ ((Below.refl _ w).alloc (Nat.le_refl _) _)).mono ?_
 rintro e w1 ⟨rfl, hb1⟩
 have z1 := hb1.size
 have b1 := (hb1.block _ (by simp)).trans (blk_new w (.cells #[.bool neg, .slice A xs.length c] 24 (0, 0)))
 have hbel1 : Below w.heap.size w w1 := below_then' ((Below.refl _ w).alloc (Nat.le_refl _) _) hb1
 clear hF hb1
 by_cases hlen : xs.length ≤ 2147483647
 ·rw [decide_eq_true hlen]
  have c0 : w1.cell? ⟨w.heap.size, 0, none⟩ = some (.bool neg) := by rw [cellOf b1]; rfl
  have c1 : w1.cell? ⟨w.heap.size, 1, none⟩ = some (.slice A xs.length c) := by rw [cellOf b1]; rfl
  clear b1
  go_wp2_with fail
  refine (lawBig_any neg 14 (hR.out.below hbel1) hb'.out (by omega)).mono ?_
  rintro e w3 ⟨r3, rfl, hr3, hb3⟩
  obtain ⟨A3, a3, rfl, hc3, hC3⟩ := hr3
  have hr3 : NatS w3 (.slice A3 (digs LB (beVal xs)).length a3) (beVal xs) := ⟨A3, a3, rfl, hc3, hC3⟩
  have hbel3 : Below w.heap.size w w3 := below_then' hbel1 hb3
  clear c0 c1 hC3 hc3 hb3 hbel1
  cases hok : (okW neg xs && decide (xs.length ≤ 14)) with
  | false =>
   go_wp2_with fail
   go_ret
   exact ⟨rfl, hbel3.alloc hbel3.size _⟩
  | true =>
   rw [Bool.and_eq_true] at hok
   obtain ⟨hx, hneg⟩ := okW_out hb'.out hok.1
   have hxl := of_decide_eq_true hok.2
   have hNl : beVal xs < 256 ^ 14 := Nat.lt_of_lt_of_le (beVal_lt xs hb'.out) (Nat.pow_le_pow_right (by omega) hxl)
   clear hok hx hxl
   generalize beVal xs = N at *
   have hneg' := Lib.hid hneg
   have hNl' := Lib.hid hNl
   clear hneg hNl
   by_cases hx1 : x < -60
   ·go_wp2_with fail
    go_ret
    exact ⟨rfl, hbel3.alloc hbel3.size _⟩
   by_cases hx2 : 60 < x
   ·go_wp2_with fail
    go_ret
    exact ⟨rfl, hbel3.alloc hbel3.size _⟩
   have hx3 : -60 ≤ x := by omega
   have hx4 : x ≤ 60 := by omega
   have hlen3 : (digs LB N).length ≤ 1000 := lbLen (Nat.lt_of_lt_of_le hNl'.out (show 256 ^ 14 ≤ LB ^ 5 by rw [LB_eq]; decide +kernel)) (by omega)
   have hlen3' := Lib.hid hlen3
   clear hlen3
   go_wp2_with fail
   have hb4 : Below w3.heap.size w3 (w3.alloc (.cells #[.bool neg, .slice A3 (digs LB N).length a3] 29 (0, 0))) := (Below.refl _ w3).alloc (Nat.le_refl _) _
   have z4 : (w3.alloc (.cells #[.bool neg, .slice A3 (digs LB N).length a3] 29 (0, 0))).heap.size = w3.heap.size + 1 := by simp
   refine (decFrac_any neg (hr3.below hb4) hlen3'.out hneg'.out x hx3 hx4).mono ?_
   rintro e w5 ⟨r5, t5, rfl, hr5, ht5, hb5⟩
   obtain ⟨A5, a5, rfl, hc5, hC5⟩ := hr5
   have hr5 : NatS w5 (.slice A5 (digs LB (lawNum N x)).length a5) (lawNum N x) := ⟨A5, a5, rfl, hc5, hC5⟩
   obtain ⟨B5, b5, rfl, hc5', hC5'⟩ := ht5
   have ht5 : NatS w5 (.slice B5 (digs LB (lawDen x)).length b5) (lawDen x) := ⟨B5, b5, rfl, hc5', hC5'⟩
   obtain ⟨M, X, hI, hX, hM, hMN, heq⟩ := law_in hNl'.out hx3 hx4 neg
   have hMneg : neg = true → M ≠ 0 := fun h => hMN.2 (hneg'.out h)
   have hPneg : neg = true → lawNum N x ≠ 0 := fun h => Nat.mul_ne_zero (hneg'.out h) (Nat.pos_iff_ne_zero.1 (pow10_pos _))
   have hI' := Lib.hid (And.intro hI (And.intro hX (And.intro hM (And.intro hMneg (And.intro hPneg heq)))))
   have hPb := Lib.hid (And.intro (lawNum_lt hNl'.out hx4) (lawDen_le hx3))
   have hxH := Lib.hid (And.intro hx3 hx4)
   clear hI hX hM hMN heq hMneg hPneg
   generalize hP : lawNum N x = P at *
   generalize hQ : lawDen x = Q at *
   have hP' := Lib.hid hP
   have hQ' := Lib.hid hQ
   clear hP hQ hx1 hx2 hx3 hx4
   have z5 := hb5.size
   have hbel5 : Below w.heap.size w w5 := below_then' (below_then' hbel3 hb4) hb5
   have hb6 : Below w5.heap.size w5 (w5.alloc (.cells #[.bool neg, .slice A5 (digs LB P).length a5, .slice B5 (digs LB Q).length b5] 33 (0, 0))) := (Below.refl _ w5).alloc (Nat.le_refl _) _
   have bf6 := blk_new w5 (.cells #[.bool neg, .slice A5 (digs LB P).length a5, .slice B5 (digs LB Q).length b5] 33 (0, 0))
   have z6 : (w5.alloc (.cells #[.bool neg, .slice A5 (digs LB P).length a5, .slice B5 (digs LB Q).length b5] 33 (0, 0))).heap.size = w5.heap.size + 1 := by simp
   have hbel6 := below_then' hbel5 hb6
   have zz : w.heap.size ≤ w3.heap.size := hbel3.size
   have hr7 := Lib.hid (hr5.below hb6)
   have ht7 := Lib.hid (ht5.below hb6)
   clear hb4 z4 hr3 hc5 hC5 hc5' hC5' hr5 ht5 hb6 hb5
   go_wp2_with fail
   have hPL : (digs LB P).length ≤ 1000 := lbLen (Nat.lt_trans hPb.out.1 kLB) (by omega)
   have hQL : (digs LB Q).length ≤ 1000 := lbLen (Nat.lt_of_le_of_lt hPb.out.2 ktenLB) (by omega)
   have hP256 : (digs 256 P).length ≤ 4294967296 := Nat.le_trans ((digs_length_le (k := 40) (by omega)).2 (Nat.lt_trans hPb.out.1 k256)) (by omega)
   have hQ256 : (digs 256 Q).length ≤ 4294967296 := Nat.le_trans ((digs_length_le (k := 32) (by omega)).2 (Nat.lt_of_le_of_lt hPb.out.2 kten256)) (by omega)
   refine (vaRatOf_any neg hr7.out ht7.out hP256 (by omega) hQ256 (by omega)).mono ?_
   rintro e w8 ⟨v8, u8, rfl, hv8, hu8, hb8⟩
   have hv8' := Lib.hid hv8
   have hu8' := Lib.hid hu8
   obtain ⟨p8, k8, rfl, _, _⟩ := hv8
   obtain ⟨q8, j8, rfl, _, _⟩ := hu8
   have z8 := hb8.size
   have bf8 := (hb8.block _ (by omega)).trans bf6
   have hbel8 := below_then' hbel6 hb8
   have hr8 := Lib.hid (hr7.out.below hb8)
   have ht8 := Lib.hid (ht7.out.below hb8)
   clear hP256 hQ256 hPL hQL hr7 ht7 hb8 bf6
   generalize hLN : (beB P).length = LN at *
   generalize hLP : (beB Q).length = LP at *
   have hLN' := Lib.hid hLN
   have hLP' := Lib.hid hLP
   clear hLN hLP
   go_wp2_with fail
   have hGL8 := Nat.le_trans hGL'.out hbel8.size
   have hT8 := hT'.out.below hbel8 hGL'.out
   refine (fbDecAny w8 neg _ _ P Q N _ _ M X hv8'.out hu8'.out (Nat.lt_trans hPb.out.1 k256) (Nat.lt_trans (Nat.lt_of_le_of_lt hPb.out.2 kten256) (by decide +kernel)) hI'.out.1 hI'.out.2.2.2.2.1 hT8 hGL8).mono ?_
   rintro e w9 ⟨r9, rfl, ho9, hb9⟩
   have hM1 : ([5] ++ decB neg M X).length = 17 := by rw [List.length_append, decB_len]; rfl
   rw [hM1] at ho9
   obtain ⟨g9, c9, rfl, hg9, hgl9, hi9⟩ := Input.of_row ho9 (by omega)
   have z9 := hb9.size
   have bf9 := (hb9.block _ (by omega)).trans bf8
   have hbel9 := below_then' hbel8 hb9
   have hr9 := Lib.hid (hr8.out.below hb9)
   have ht9 := Lib.hid (ht8.out.below hb9)
   have hi9' := Lib.hid hi9
   clear ho9 hb9 hr8 ht8 hv8' hu8' bf8 hT8 hM1
   have hcap9 := hi9.cap
   have hcb9 := hi9.big
   clear hi9
   go_wp2_with fail
   have hGL9 := Nat.le_trans hGL'.out hbel9.size
   have hT9 := hT'.out.below hbel9 hGL'.out
   refine (foDecAny w9 neg M X hI'.out.2.2.2.1 hI'.out.2.1 hI'.out.2.2.1 hT9 hGL9 g9 0 c9 hi9'.out hgl9).mono ?_
   rintro e w12 ⟨v12, B12, rfl, hv12, hb12⟩
   obtain ⟨bn, pn, kn, bd, pd, kd, rfl, hkn, hVn, _, _, hkd, hVd, _, _⟩ := hv12
   have z12 := hb12.size
   have hbel12 := below_then' hbel9 hb12
   have hr12 := Lib.hid (hr9.out.below hb12)
   have ht12 := Lib.hid (ht9.out.below hb12)
   have hi12 := Lib.hid (hi9'.out.below hb12 hgl9)
   have bf12 := (hb12.block _ (by omega)).trans bf9
   have hkn' := Lib.hid hkn
   have hkd' := Lib.hid hkd
   have hVn' := Lib.hid hVn
   have hVd' := Lib.hid hVd
   clear hkn hkd hVn hVd hb12 hr9 ht9 bf9 hT9 hi9'
   obtain ⟨n1, hn1⟩ : ∃ x, x = (beB (decNum M X)).length := ⟨_, rfl⟩
   obtain ⟨n2, hn2⟩ : ∃ x, x = (beB (decDen X)).length := ⟨_, rfl⟩
   rw [← hn1, ← hn2]
   have hn1' := Lib.hid hn1
   have hn2' := Lib.hid hn2
   clear hn1 hn2
   have q12 : (w12.alloc (.cells noVal 49)).heap[w12.heap.size]? = some (.cells noVal 49 (0, 0)) := blk_new _ _
   obtain ⟨W13, hW13⟩ : ∃ W, W = (w12.alloc (.cells noVal 49)).setRow w12.heap.size (ratVal neg (.slice (some ⟨bn, pn, none⟩) n1 kn) (.slice (some ⟨bd, pd, none⟩) n2 kd)) := ⟨_, rfl⟩
   have q13 : W13.heap[w12.heap.size]? = some (.cells (ratVal neg (.slice (some ⟨bn, pn, none⟩) n1 kn) (.slice (some ⟨bd, pd, none⟩) n2 kd)) 49 (0, 0)) := by rw [hW13]; exact setRow_heap _ _ _ _ _ _ q12
   have hb13 : Below w12.heap.size w12 W13 := by rw [hW13]; exact below_setRow ((Below.refl _ w12).alloc (Nat.le_refl _) _) (Nat.le_refl _) _
   replace hW13 := Lib.hid hW13
   have bf13 := (hb13.block _ (by omega)).trans bf12
   have k0 : W13.cell? ⟨w12.heap.size, 0, none⟩ = some (.int .i64 7) := by rw [cellOf q13]; rfl
   have k13 : W13.cell? ⟨w12.heap.size, 13, none⟩ = some (.bool neg) := by rw [cellOf q13]; rfl
   have k14 : W13.cell? ⟨w12.heap.size, 14, none⟩ = some (.slice (some ⟨bn, pn, none⟩) n1 kn) := by rw [cellOf q13]; rfl
   have k15 : W13.cell? ⟨w12.heap.size, 15, none⟩ = some (.slice (some ⟨bd, pd, none⟩) n2 kd) := by rw [cellOf q13]; rfl
   have f0 : W13.cell? ⟨w5.heap.size, 0, none⟩ = some (.bool neg) := by rw [cellOf bf13]; rfl
   have f1 : W13.cell? ⟨w5.heap.size, 1, none⟩ = some (.slice A5 (digs LB P).length a5) := by rw [cellOf bf13]; rfl
   have f2 : W13.cell? ⟨w5.heap.size, 2, none⟩ = some (.slice B5 (digs LB Q).length b5) := by rw [cellOf bf13]; rfl
   have hi13 := Lib.hid (hi12.out.below hb13 (by omega))
   have o5 : W13.cell? ⟨g9, 0, none⟩ = some (.int .u8 5) := hi13.out.cell 0 (by simp)
   go_wp2_with (refine store_valW rfl (.tmp 11) (.tmp 47) rfl _ rfl (ratVal neg (.slice (some ⟨bn, pn, none⟩) n1 kn) (.slice (some ⟨bd, pd, none⟩) n2 kd)) rfl noVal q12 rfl rfl (rat1 _ _ _ _ _ _ _) W13 hW13.out ?_)
   have hVn13 : VecB W13 bn pn (beB (decNum M X)) := fun j hj => (World.cell?_of_block (hb13.block _ (vecB_lt hVn'.out (by omega)))).trans (hVn'.out j hj)
   have hVd13 : VecB W13 bd pd (beB (decDen X)) := fun j hj => (World.cell?_of_block (hb13.block _ (vecB_lt hVd'.out (by omega)))).trans (hVd'.out j hj)
   rw [hn1'.out, hn2'.out]
   refine (worthBack (N := N) (x := x) neg hVn13 hkn'.out hVd13 hkd'.out (by rw [hP'.out]; exact hr12.out.below hb13) (by rw [hQ'.out]; exact ht12.out.below hb13) hxH.out.1 hxH.out.2 hNl'.out hI'.out.2.1 hI'.out.2.2.1 hI'.out.2.2.2.1 (by rw [hP'.out, hQ'.out]; exact hI'.out.2.2.2.2.2)).mono ?_
   rintro e w14 ⟨rfl, hb14⟩
   have z13 := sizeOf_blk q13
   have z14 := hb14.size
   have q14 := (hb14.block _ z13).trans q13
   have b1214 : Below w12.heap.size w12 w14 := below_then' hb13 hb14
   have hbel14 := below_then' hbel12 b1214
   have hi14 := Lib.hid (hi13.out.below hb14 (by omega))
   have hGL14 := Nat.le_trans hGL'.out hbel14.size
   have hT14 := Lib.hid (hT'.out.below hbel14 hGL'.out)
   have hne9 : ¬ c9 = 1 := by omega
   have b1214' := Lib.hid b1214
   have q12' := Lib.hid q12
   clear hVn13 hVd13 hkn' hkd' hVn' hVd' q13 k0 k13 k14 k15 f0 f1 f2 o5 hi13 hb14 q12 bf13 hb13 hW13 b1214
   go_wp2_with fail
   refine (roDecAny w14 neg M X hI'.out.2.2.2.1 hI'.out.2.1 hI'.out.2.2.1 hT14.out hGL14 g9 1 (c9 - 1) hi14.out.tail1 (by omega)).mono ?_
   rintro e w15 ⟨v15, B15, rfl, hv15, hb15⟩
   obtain ⟨en, fn, ln, ed, fd, ld, rfl, hkn, hVn, hen, _, hkd, hVd, hed, _⟩ := hv15
   have z15 := hb15.size
   have q15 := (hb15.block _ (by omega)).trans q14
   have b1215 := below_then' b1214'.out hb15
   obtain ⟨m1, hm1⟩ : ∃ x, x = (beB (decNum M X)).length := ⟨_, rfl⟩
   obtain ⟨m2, hm2⟩ : ∃ x, x = (beB (decDen X)).length := ⟨_, rfl⟩
   rw [← hm1, ← hm2]
   have hm1' := Lib.hid hm1
   have hm2' := Lib.hid hm2
   clear hm1 hm2
   obtain ⟨W16, hW16⟩ : ∃ W, W = w15.setRow w12.heap.size (ratVal neg (.slice (some ⟨en, fn, none⟩) m1 ln) (.slice (some ⟨ed, fd, none⟩) m2 ld)) := ⟨_, rfl⟩
   have q16 : W16.heap[w12.heap.size]? = some (.cells (ratVal neg (.slice (some ⟨en, fn, none⟩) m1 ln) (.slice (some ⟨ed, fd, none⟩) m2 ld)) 49 (0, 0)) := by rw [hW16]; exact setRow_heap _ _ _ _ _ _ q15
   have b1216 : Below w12.heap.size w12 W16 := by rw [hW16]; exact below_setRow b1215 (Nat.le_refl _) _
   have nn1 : en ≠ w12.heap.size := by omega
   have nn2 : ed ≠ w12.heap.size := by omega
   have hVn16 : VecB W16 en fn (beB (decNum M X)) := fun j hj => by rw [hW16]; exact (World.cell?_of_block (setRow_other _ _ _ _ (by first | exact nn1 | exact nn1.symm))).trans (hVn j hj)
   have hVd16 : VecB W16 ed fd (beB (decDen X)) := fun j hj => by rw [hW16]; exact (World.cell?_of_block (setRow_other _ _ _ _ (by first | exact nn2 | exact nn2.symm))).trans (hVd j hj)
   have bf16 := (b1216.block _ (by omega)).trans bf12
   have hW16' := Lib.hid hW16
   have b1216' := Lib.hid b1216
   have hV16 := Lib.hid (And.intro hkn (And.intro hVn16 (And.intro hkd hVd16)))
   have k0 : W16.cell? ⟨w12.heap.size, 0, none⟩ = some (.int .i64 7) := by rw [cellOf q16]; rfl
   have k13 : W16.cell? ⟨w12.heap.size, 13, none⟩ = some (.bool neg) := by rw [cellOf q16]; rfl
   have k14 : W16.cell? ⟨w12.heap.size, 14, none⟩ = some (.slice (some ⟨en, fn, none⟩) m1 ln) := by rw [cellOf q16]; rfl
   have k15 : W16.cell? ⟨w12.heap.size, 15, none⟩ = some (.slice (some ⟨ed, fd, none⟩) m2 ld) := by rw [cellOf q16]; rfl
   have f0 : W16.cell? ⟨w5.heap.size, 0, none⟩ = some (.bool neg) := by rw [cellOf bf16]; rfl
   have f1 : W16.cell? ⟨w5.heap.size, 1, none⟩ = some (.slice A5 (digs LB P).length a5) := by rw [cellOf bf16]; rfl
   have f2 : W16.cell? ⟨w5.heap.size, 2, none⟩ = some (.slice B5 (digs LB Q).length b5) := by rw [cellOf bf16]; rfl
   clear nn1 nn2 hkn hVn hen hkd hVd hed hVn16 hVd16 hW16 b1216 b1215 b1214' hb15 q14 hi14 hT14 q16 bf16
   go_wp2_with (refine store_valW rfl (.tmp 11) (.tmp 91) rfl _ rfl (ratVal neg (.slice (some ⟨en, fn, none⟩) m1 ln) (.slice (some ⟨ed, fd, none⟩) m2 ld)) rfl _ q15 rfl rfl (rat1 _ _ _ _ _ _ _) W16 hW16'.out ?_)
   rw [hm1'.out, hm2'.out]
   refine (worthBack (N := N) (x := x) neg hV16.out.2.1 hV16.out.1 hV16.out.2.2.2 hV16.out.2.2.1 (by rw [hP'.out]; exact hr12.out.below b1216'.out) (by rw [hQ'.out]; exact ht12.out.below b1216'.out) hxH.out.1 hxH.out.2 hNl'.out hI'.out.2.1 hI'.out.2.2.1 hI'.out.2.2.2.1 (by rw [hP'.out, hQ'.out]; exact hI'.out.2.2.2.2.2)).mono ?_
   rintro e w17 ⟨rfl, hb17⟩
   go_wp2_with fail
   go_ret
   exact ⟨rfl, below_then' (below_then' hbel12 b1216'.out) hb17⟩
 ·rw [decide_eq_false hlen]
  go_wp2_with fail
  go_ret
  exact ⟨rfl, hbel1⟩
end Go.Proofs.YtgamldefngehlaaGreatDoor
