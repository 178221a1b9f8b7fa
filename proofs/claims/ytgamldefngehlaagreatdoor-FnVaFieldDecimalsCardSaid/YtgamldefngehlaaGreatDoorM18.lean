/- Parts of the walk. -/
import Derived.Test.YtgamldefngehlaaGreatDoorM08
import Derived.Test.YtgamldefngehlaaGreatDoorM10
import Derived.Deep.RegionHeld3
set_option linter.unusedVariables false
set_option linter.unusedSimpArgs false
namespace Go.Proofs.YtgamldefngehlaaGreatDoor
open Go.RowKit
def beVal : List Nat → Nat
 | [] => 0
 | x :: xs => x * 256 ^ xs.length + beVal xs
theorem or64 {a b c : Nat} (i : Nat) (hi : i ≤ 64) (ha : a < 2 ^ i) (hb : b < 2 ^ (64 - i)) (hc : 2 ^ i * b + a = c) : bits .or .u64 ((2 ^ i * b : Nat) : Int) (a : Int) = (c : Int) := by
 have h64 : (2 : Nat) ^ 64 = 2 ^ i * 2 ^ (64 - i) := by rw [← Nat.pow_add]; congr 1; omega
 have hbl : 2 ^ i * b < 2 ^ 64 := by rw [h64]; exact (Nat.mul_lt_mul_left (Nat.pow_pos (by omega))).2 hb
 have hal : a < 2 ^ 64 := Nat.lt_of_lt_of_le ha (Nat.pow_le_pow_right (by omega) hi)
 rw [bits_or_u64_nat _ _ (by omega) (by omega), ← Nat.two_pow_add_eq_or_of_lt ha, hc]
theorem elem8 : Tryz.prog.elem 22 = 5 := by kernel_rfl
theorem size8 (w : World) : (sizeOf 5).run Tryz.prog w = .ok 1 w := by kernel_rfl
theorem tail8 (b o n c k : Nat) (hk : k ≤ n) (hc : k < c) (w : World) :
  (Instr.slice 22 (.slice (some ⟨b, o, none⟩) n c) (some (.int .i64 (k : Int))) none none).run Tryz.prog w = .ok (.slice (some ⟨b, o + k, none⟩) (n - k) (c - k)) w := by
 rw [run_slice_l w 22 _ _ _ (by rw [elem8]; exact Tryz.underlying22) .i64 k (by omega) (by omega), elem8, size8]
 simp only [Result.andThen, sliced, Int.toNat_natCast, Nat.mul_one]
 simp [show ¬ c = k by omega, Addr.add_lit]
set_option maxRecDepth 100000 in
theorem beUint64_any (w : World) (b o n c x y : Nat) (hn : 8 ≤ n) (hc : n ≤ c) (xs : List Nat) (hx : VecB w b o xs) (hl : xs.length = 8) (hb : ∀ x ∈ xs, x < 256)
  (hxe : xs[3]'(by omega) + 256 * (xs[2]'(by omega) + 256 * (xs[1]'(by omega) + 256 * xs[0]'(by omega))) = x) (hye : xs[7]'(by omega) + 256 * (xs[6]'(by omega) + 256 * (xs[5]'(by omega) + 256 * xs[4]'(by omega))) = y) :
  Calls Tryz.prog 280 #[.slice (some ⟨b, o, none⟩) n c] w fun e w' => e = .returned (.int .u64 (4294967296 * x + y : Nat)) ∧ ∃ q, w' = w.drewN q := by
 have bd := fun i (h : i < xs.length) => hb _ (List.getElem_mem h)
 have hxl : x < 2 ^ 32 := by have := bd 0 (by omega); have := bd 1 (by omega); have := bd 2 (by omega); have := bd 3 (by omega); omega
 have hyl : y < 2 ^ 32 := by have := bd 4 (by omega); have := bd 5 (by omega); have := bd 6 (by omega); have := bd 7 (by omega); omega
 have hA := fun q => beUint32_any (w.drewN q) b o n c _ _ _ _ (by omega) (hx 0 (by omega)) (hx 1 (by omega)) (hx 2 (by omega)) (hx 3 (by omega)) (bd 0 (by omega)) (bd 1 (by omega)) (bd 2 (by omega)) (bd 3 (by omega))
 have hB := fun q => beUint32_any (w.drewN q) b (o + 4) (n - 4) (c - 4) _ _ _ _ (by omega) (hx 4 (by omega)) (hx 5 (by omega)) (hx 6 (by omega)) (hx 7 (by omega)) (bd 4 (by omega)) (bd 5 (by omega)) (bd 6 (by omega)) (bd 7 (by omega))
 simp only [hxe] at hA
 simp only [hye] at hB
 have c7 := hx 7 (by omega)
 obtain ⟨x7, hx7⟩ : ∃ x7, xs[7]'(by omega) = x7 := ⟨_, rfl⟩
 rw [hx7] at c7
 have hs : ∀ W, (Instr.slice 22 (.slice (some ⟨b, o, none⟩) n c) (some (.int .i64 4)) none none).run Tryz.prog W = .ok (.slice (some ⟨b, o + 4, none⟩) (n - 4) (c - 4)) W := fun W => tail8 b o n c 4 (by omega) (by omega) W
 obtain ⟨p, hp⟩ : ∃ p, 4294967296 * x + y = p := ⟨_, rfl⟩
 have e1 := or64 32 (by omega) (a := y) (b := x) (c := p) (by omega) (by omega) (by omega)
 obtain ⟨sx, hsx⟩ : ∃ s, 2 ^ 32 * x = s := ⟨_, rfl⟩
 rw [hsx] at e1
 rw [hp]
 have w1 := wrapW (x := x) (by rw [WB_eq]; omega)
 have w2 := wrapW (x := y) (by rw [WB_eq]; omega)
 have v1 : (x : Int) * 4294967296 = (sx : Int) := by omega
 have w3 := wrapW (x := sx) (by rw [WB_eq]; omega)
 generalize n - 4 = n4 at hs hB
 generalize c - 4 = c4 at hs hB
 generalize o + 4 = o4 at hs hB
 have hA := Lib.hid hA
 have hB := Lib.hid hB
 have t1 : (7 : Int) < n := by omega
 have t2 : (4 : Int) ≤ n := by omega
 clear hsx hp hxl hyl hxe hye hx7 hx hb
 go_enter Tryz.func280, Tryz.ntmps280
 go_wp2_with fail
 go_region_held3 (fun _ => True) (trivial) (first
  | (go_at_call_of 281 (Value.slice (some ⟨b, o, none⟩) n c); refine (hA.out _).mono ?_; rintro e w' ⟨rfl, q1, rfl⟩)
  | (go_at_call_of 281 (Value.slice (some ⟨b, o4, none⟩) n4 c4); refine (hB.out _).mono ?_; rintro e w' ⟨rfl, q1, rfl⟩))
 go_wp2_with fail
 go_ret
 exact ⟨rfl, _, rfl⟩
set_option maxRecDepth 100000 in
theorem bigEndianWord_any (w : World) (b o n c v : Nat) (h : Calls Tryz.prog 280 #[.slice (some ⟨b, o, none⟩) n c] w fun e w' => e = .returned (.int .u64 (v : Nat)) ∧ ∃ q, w' = w.drewN q) (hv : v < WB) :
  Calls Tryz.prog 248 #[.slice (some ⟨b, o, none⟩) n c] w fun e w' => e = .returned (.int .u64 (v : Nat)) ∧ ∃ q, w' = w.drewN q := by
 have h := Lib.hid h
 have w1 := wrapW hv
 clear hv
 go_enter Tryz.func248, Tryz.ntmps248
 go_wp2_with fail
 refine h.out.mono ?_
 rintro e w2 ⟨rfl, q, rfl⟩
 go_wp2_with fail
 go_ret
 exact ⟨rfl, q, rfl⟩
end Go.Proofs.YtgamldefngehlaaGreatDoor
namespace Go.Proofs.YtgamldefngehlaaGreatDoor
open Go.RowKit
theorem beVal_append : ∀ xs ys : List Nat, beVal (xs ++ ys) = beVal xs * 256 ^ ys.length + beVal ys
 | [], ys => by simp [beVal]
 | x :: xs, ys => by
  rw [List.cons_append, beVal, beVal, beVal_append xs ys, List.length_append, Nat.pow_add, Nat.add_mul, Nat.mul_assoc]
  omega
theorem beVal_lt : ∀ xs : List Nat, (∀ x ∈ xs, x < 256) → beVal xs < 256 ^ xs.length
 | [], _ => by simp [beVal]
 | x :: xs, h => by
  have h1 := beVal_lt xs (fun y hy => h y (by simp [hy]))
  have h2 := Nat.mul_le_mul_right (256 ^ xs.length) (h x (by simp))
  rw [Nat.succ_mul] at h2
  rw [beVal, List.length_cons, Nat.pow_succ, Nat.mul_comm (256 ^ xs.length)]
  omega
theorem beVal_eight (xs : List Nat) (hl : xs.length = 8) : beVal xs = 4294967296 * (xs[3]'(by omega) + 256 * (xs[2]'(by omega) + 256 * (xs[1]'(by omega) + 256 * xs[0]'(by omega)))) + (xs[7]'(by omega) + 256 * (xs[6]'(by omega) + 256 * (xs[5]'(by omega) + 256 * xs[4]'(by omega)))) := by
 match xs, hl with
 | [a, b, c, d, e, f, g, h], _ =>
  simp [beVal]
  omega
theorem WB_256 : WB = 256 ^ 8 := by rw [WB_eq]
theorem beVal_word {xs zs : List Nat} {j k : Nat} (hj : j + 8 ≤ xs.length) (hk : (xs.drop (j + 8)).length = 8 * k) (hz : zs.length = k) (hv : val WB zs = beVal (xs.drop (j + 8))) :
  val WB (zs ++ [beVal ((xs.drop j).take 8)]) = beVal (xs.drop j) := by
 have e : xs.drop j = (xs.drop j).take 8 ++ xs.drop (j + 8) := by
  rw [← List.drop_drop]; exact (List.take_append_drop 8 _).symm
 conv => rhs; rw [e]
 rw [val_snoc, hz, hv, beVal_append, hk, WB_256, ← Nat.pow_mul, Nat.mul_comm]
 omega
theorem or64r {a b c : Nat} (i : Nat) (hi : i ≤ 64) (ha : a < 2 ^ i) (hb : b < 2 ^ (64 - i)) (hc : a + 2 ^ i * b = c) : bits .or .u64 (a : Int) ((2 ^ i * b : Nat) : Int) = (c : Int) := by
 have h64 : (2 : Nat) ^ 64 = 2 ^ i * 2 ^ (64 - i) := by rw [← Nat.pow_add]; congr 1; omega
 have hbl : 2 ^ i * b < 2 ^ 64 := by rw [h64]; exact (Nat.mul_lt_mul_left (Nat.pow_pos (by omega))).2 hb
 have hal : a < 2 ^ 64 := Nat.lt_of_lt_of_le ha (Nat.pow_le_pow_right (by omega) hi)
 rw [bits_or_u64_nat _ _ (by omega) (by omega), Nat.or_comm, ← Nat.two_pow_add_eq_or_of_lt ha, ← hc, Nat.add_comm]
theorem shl64 {b s : Nat} (hs : s ≤ 56) (hb : b < 256) : IntKind.u64.wrap ((b : Int) * 2 ^ min s 64) = ((2 ^ s * b : Nat) : Int) := by
 have h1 : 2 ^ s * b < WB := by
  have h2 : 2 ^ s ≤ 2 ^ 56 := Nat.pow_le_pow_right (by omega) hs
  have h3 := Nat.mul_le_mul_right b h2
  rw [WB_eq]; omega
 rw [Nat.min_eq_left (by omega), ← wrapW h1]
 congr 1
 rw [Int.natCast_mul, Int.mul_comm]
 simp
theorem beVal_head {xs : List Nat} {i j : Nat} (hi : i < j) (hj : j ≤ xs.length) : beVal ((xs.take j).drop i) = beVal ((xs.take j).drop (i + 1)) + 2 ^ (8 * (j - (i + 1))) * xs[i]'(by omega) := by
 have e : (xs.take j).drop i = xs[i]'(by omega) :: (xs.take j).drop (i + 1) := by
  rw [List.drop_eq_getElem_cons (by simp; omega)]; simp
 rw [e, beVal, List.length_drop, List.length_take, Nat.min_eq_left hj, show (256 : Nat) = 2 ^ 8 from rfl, ← Nat.pow_mul, Nat.mul_comm _ (2 ^ _)]
 omega
theorem beVal_end {xs zs : List Nat} {j k : Nat} (hj : j ≤ xs.length) (hk : (xs.drop j).length = 8 * k) (hz : zs.length = k) (hv : val WB zs = beVal (xs.drop j)) : val WB (zs ++ [beVal (xs.take j)]) = beVal xs := by
 have e := beVal_append (xs.take j) (xs.drop j)
 rw [List.take_append_drop] at e
 rw [val_snoc, hz, hv, e, hk, WB_256, ← Nat.pow_mul, Nat.mul_comm]
 omega
end Go.Proofs.YtgamldefngehlaaGreatDoor
namespace Go.Proofs.YtgamldefngehlaaGreatDoor
open Go.RowKit
set_option maxRecDepth 100000 in
set_option maxHeartbeats 1000000 in
theorem setBytes_any (w : World) (base b n c : Nat) (zv : Value) (zs0 xs : List Nat) (h : NatRow w base zv zs0) (hx : VecB w b 0 xs) (hxl : xs.length = n) (hb : ∀ x ∈ xs, x < 256) (h0 : 0 < n) (hc : n ≤ c) (hn : n ≤ 10000) (hB : base ≤ w.heap.size) (hbz : zv.ownBlock ≠ some b) (hbl : b < w.heap.size) :
  Calls Tryz.prog 200 #[zv, .slice (some ⟨b, 0, none⟩) n c] w fun e w' => ∃ v', e = .returned v' ∧ NatOut w w' base zv v' (digs WB (beVal xs)) := by
 obtain ⟨m, hm⟩ : ∃ m, (n + 7) / 8 = m := ⟨_, rfl⟩
 have hM := make_any w base m zv zs0 h (by omega) (by omega) hB
 have e2 : ((n : Int) + 8 - 1) / 8 = (m : Int) := by omega
 rw [← e2] at hM
 have hM := Lib.hid hM
 clear e2
 go_enter Tryz.func200, Tryz.ntmps200
 go_wp2_with fail
 refine hM.out.mono ?_
 rintro e w1 ⟨g, C, rfl, hmd⟩
 have hf := Lib.hid hmd.fit
 have hmH := Lib.hid hm
 clear hm hM
 have hgb : b ≠ g := fun e => by
  subst e
  rcases hmd.own with h | h
  ·exact hbz h
  ·omega
 clear hbz
 go_wp2_with fail
 go_loopw [5, 6] (fun i kk wr => ∃ (j k : Nat) (zs : List Nat), i = .int .i64 j ∧ kk = .int .i64 k ∧ j + 8 * k = n ∧ val WB zs = beVal (xs.drop j) ∧ VecOut w1 wr g 0 C zs k) (fun i _ _ => (intOf i).toNat)
 case atStart => exact ⟨n, 0, [], rfl, rfl, by omega, by rw [List.drop_of_length_le (by omega)]; rfl, .start hmd.blk⟩
 case round =>
  obtain ⟨j, k, zs, rfl, rfl, hjk, hval, ho⟩ := hrel
  by_cases hj : 8 ≤ j
  ·obtain ⟨i, hi⟩ : ∃ i, j = i + 8 := ⟨j - 8, by omega⟩
   have hbw : VecB w1 b 0 xs := fun i hi => hmd.keep.cellS (hx i hi) (fun h => h)
   have hbr : VecB wr b 0 xs := fun i hi => ho.keep.cellS (hbw i hi) hgb
   obtain ⟨ys, hys⟩ : ∃ ys, (xs.drop i).take 8 = ys := ⟨_, rfl⟩
   have hyl : ys.length = 8 := by rw [← hys]; simp; omega
   have hyb : ∀ y ∈ ys, y < 256 := fun y hy => hb y (by rw [← hys] at hy; exact List.mem_of_mem_drop (List.mem_of_mem_take hy))
   have hvy : VecB wr b i ys := fun q hq => by
    have hq8 : q < 8 := by omega
    have := hbr (i + q) (by omega)
    rw [Nat.zero_add] at this
    rw [this]
    subst hys
    simp
   obtain ⟨hi4, hhi⟩ : ∃ q, ys[3]'(by omega) + 256 * (ys[2]'(by omega) + 256 * (ys[1]'(by omega) + 256 * ys[0]'(by omega))) = q := ⟨_, rfl⟩
   obtain ⟨lo4, hlo⟩ : ∃ q, ys[7]'(by omega) + 256 * (ys[6]'(by omega) + 256 * (ys[5]'(by omega) + 256 * ys[4]'(by omega))) = q := ⟨_, rfl⟩
   have hE := fun q => beUint64_any (wr.drewN q) b i 8 (c - i) hi4 lo4 (by omega) (by omega) ys hvy hyl hyb hhi hlo
   have hev := beVal_eight ys hyl
   rw [hhi, hlo] at hev
   simp only [← hev] at hE
   have hyv : beVal ys < WB := by have := beVal_lt ys hyb; rw [hyl] at this; rwa [WB_256]
   have hstep := beVal_word (xs := xs) (zs := zs) (j := i) (k := k) (by omega) (by simp; omega) ho.len (by rw [← hi]; exact hval)
   rw [hys] at hstep
   have hE := Lib.hid (fun q => bigEndianWord_any (wr.drewN q) b i 8 (c - i) _ (hE q) hyv)
   have e3 : (j : Int) - 8 = (i : Int) := by omega
   have t0 : (8 : Int) ≤ j := by omega
   have t1 : (0 : Int) ≤ i := by omega
   have hlk : k < m := by have := hmH.out; omega
   have hlm := hf.out
   obtain ⟨u, hu⟩ := ho.there (by omega)
   have hfr := ho.room k
   rw [Nat.zero_add] at hu
   have hsn := fun q => (ho.drewN q).snoc (C := C) (beVal ys) hyv (by omega)
   rw [Nat.zero_add] at hsn
   have hsn := Lib.hid hsn
   obtain ⟨v, hv⟩ : ∃ v, beVal ys = v := ⟨_, rfl⟩
   rw [hv] at hE hsn hstep
   have b1 : (k : Int) < m := by omega
   have hstep := Lib.hid hstep
   have hk8 : i + 8 * (k + 1) = n := by omega
   have hk8 := Lib.hid hk8
   clear hhi hlo hev hyv hvy hbr hbw hyl hyb hys hv ho hval hjk
   go_wp2_with fail
   have hE0 := hE.out 0
   refine hE0.mono ?_
   rintro e w2 ⟨rfl, q, rfl⟩
   go_wp2_with fail
   go_roundw
   case rel => exact ⟨i, k + 1, _, rfl, by go_num, hk8.out, hstep.out, hsn.out q⟩
   case measure => simp [intOf]; omega
  ·have t0 : ¬ (8 : Int) ≤ j := by omega
   by_cases hj0 : j = 0
   ·subst hj0
    rw [List.drop_zero] at hval
    have hkm : k = m := by have := hmH.out; omega
    subst hkm
    have hN := Lib.hid (hmd.normCall (by omega) ho hval)
    go_wp2_with fail
    refine hN.out.mono ?_
    rintro e w5 ⟨v', rfl, hw5, ho⟩
    obtain rfl := hw5.symm
    go_wp2_with fail
    go_ret
    exact ⟨_, rfl, ho⟩
   ·have t1 : (0 : Int) < j := by omega
    have hkm : k + 1 = m := by have := hmH.out; omega
    have hbw : VecB w1 b 0 xs := fun i hi => hmd.keep.cellS (hx i hi) (fun h => h)
    have hbr : VecB wr b 0 xs := fun i hi => ho.keep.cellS (hbw i hi) hgb
    have hend := Lib.hid (beVal_end (xs := xs) (zs := zs) (j := j) (k := k) (by omega) (by simp; omega) ho.len hval)
    have htl : beVal (xs.take j) < WB := by
     have := beVal_lt (xs.take j) (fun x hx => hb x (List.mem_of_mem_take hx))
     refine Nat.lt_of_lt_of_le this ?_
     rw [WB_256]
     exact Nat.pow_le_pow_right (by omega) (by simp; omega)
    have hj8 : j < 8 := by omega
    have hjn : j ≤ n := by omega
    have hval := Lib.hid hval
    have hho := Lib.hid ho
    have hlm := hf.out
    go_wp2_with fail
    go_loopw [5, 7, 8] (fun i d s wx => ∃ (p : Nat), p ≤ j ∧ i = .int .i64 p ∧ d = .int .u64 (beVal ((xs.take j).drop p) : Nat) ∧ s = .int .u64 (8 * (j - p) : Nat) ∧ ∃ q, wx = wr.drewN q) (fun i _ _ _ => (intOf i).toNat)
    case atStart => exact ⟨j, Nat.le_refl _, rfl, by rw [List.drop_of_length_le (by simp; omega)]; rfl, by rw [Nat.sub_self]; rfl, 0, rfl⟩
    case round =>
     obtain ⟨p, hp, rfl, rfl, rfl, q, rfl⟩ := hrel
     by_cases hp0 : p = 0
     ·subst hp0
      rw [List.drop_zero]
      have hfr := (hho.out.drewN q).room k
      obtain ⟨u, hu⟩ := (hho.out.drewN q).there (by omega)
      rw [Nat.zero_add] at hu
      have hsn := (hho.out.drewN q).snoc (C := C) (beVal (xs.take j)) htl (by omega)
      rw [Nat.zero_add] at hsn
      have hend := hend.out
      obtain ⟨v, hv⟩ : ∃ v, beVal (xs.take j) = v := ⟨_, rfl⟩
      rw [hv] at hsn hend ⊢
      have hN := hmd.normCall (by omega) (by rw [← hkm]; exact hsn) hend
      have hN := Lib.hid hN
      have e5 : (m : Int) - 1 = (k : Int) := by omega
      have b1 : (k : Int) < m := by omega
      clear hsn hend hv htl
      go_wp2_with fail
      refine hN.out.mono ?_
      rintro e w5 ⟨v', rfl, hw5, ho⟩
      obtain rfl := hw5.symm
      go_wp2_with fail
      go_ret
      exact ⟨_, rfl, ho⟩
     ·obtain ⟨i, hi⟩ : ∃ i, p = i + 1 := ⟨p - 1, by omega⟩
      have hci := hbr i (by omega)
      rw [Nat.zero_add] at hci
      have hbi := hb _ (List.getElem_mem (show i < xs.length by omega))
      have hhd := beVal_head (xs := xs) (i := i) (j := j) (by omega) (by omega)
      rw [← hi] at hhd
      obtain ⟨s, hs⟩ : ∃ s, 8 * (j - p) = s := ⟨_, rfl⟩
      have hlow : beVal ((xs.take j).drop p) < 2 ^ s := by
       have := beVal_lt ((xs.take j).drop p) (fun x hx => hb x (List.mem_of_mem_take (List.mem_of_mem_drop hx)))
       rw [show (256 : Nat) = 2 ^ 8 from rfl, ← Nat.pow_mul] at this
       simpa [Nat.min_eq_left (show j ≤ xs.length by omega), hs] using this
      rw [hs] at hhd
      obtain ⟨x, hxx⟩ : ∃ x, xs[i]'(by omega) = x := ⟨_, rfl⟩
      rw [hxx] at hci hbi hhd
      have o1 := or64r (a := beVal ((xs.take j).drop p)) (b := x) (c := beVal ((xs.take j).drop i)) s (by omega) hlow (by
       refine Nat.lt_of_lt_of_le hbi ?_
       rw [show (256 : Nat) = 2 ^ 8 from rfl]
       exact Nat.pow_le_pow_right (by omega) (by omega)) hhd.symm
      have o2 := shl64 (s := s) (b := x) (by omega) hbi
      have o3 := wrapW (x := x) (by rw [WB_eq]; omega)
      have o4 := wrapW (x := s + 8) (by rw [WB_eq]; omega)
      rw [Int.natCast_add, show ((8 : Nat) : Int) = 8 from rfl] at o4
      generalize beVal ((xs.take j).drop p) = dp at *
      generalize hdi : beVal ((xs.take j).drop i) = di at *
      generalize 2 ^ s * x = sx at *
      rw [hs]
      have e6 : (p : Int) - 1 = (i : Int) := by omega
      have b1 : (i : Int) < n := by omega
      have b2 : (0 : Int) < p := by omega
      have hs8 := Lib.hid (show 8 * (j - i) = s + 8 by omega)
      have hdi := Lib.hid hdi
      clear hlow hbi hhd hs
      go_wp2_with fail
      go_roundw
      case rel => exact ⟨i, by omega, rfl, by rw [hdi.out], by rw [hs8.out]; simp, q, rfl⟩
      case measure => simp [intOf]; omega
end Go.Proofs.YtgamldefngehlaaGreatDoor
namespace Go.Proofs.YtgamldefngehlaaGreatDoor
open Go.RowKit
theorem NatNew.out {w w1 : World} {base n : Nat} {zv v : Value} (h : NatNew w w1 v n) (hB : base ≤ w.heap.size) : NatOut w w1 base zv v (digs WB n) :=
 ⟨NatRow.lower h.at_ hB, h.keep.mono (fun _ _ x => x.elim), fun k hk => .inr (NatRow.lt h.at_ k hk).1⟩
set_option maxRecDepth 100000 in
set_option maxHeartbeats 1000000 in
theorem intexp_any (w : World) (base bx gz oz gx ox a e : Nat) (zv xv : Value) (hz : IntAt w base gz oz false zv e) (hx : IntAt w bx gx ox false xv a) (hap : sameBlk zv xv = false) (hnil : e = 0 → zv = .slice none 0 0) (hB : base ≤ w.heap.size)
  (ha1 : 1 < a) (ha : a < WB) (he : e < 1000) (hl : (digs WB (a ^ e)).length ≤ 9) (hg : Thr w) (hGL : GL ≤ w.heap.size) :
  Calls Tryz.prog 297 #[.pointer (some ⟨gz, oz, none⟩), .pointer (some ⟨gx, ox, none⟩), .pointer (some ⟨gz, oz, none⟩), .pointer none, .bool false] w fun e' w' => ∃ v', e' = .returned (.pointer (some ⟨gz, oz, none⟩)) ∧ IntOut w w' base gz oz zv false v' (a ^ e) := by
 have hS := Lib.hid (expNN_any w bx base xv zv a e hx.nat hz.nat hap hnil ha1 ha he hl hg hGL)
 have c1 := hz.abs
 have c0 := hz.neg
 have c2 := hx.abs
 have hM := Lib.hid (fun (w1 : World) (v' : Value) (ho : NatNew w w1 v' (a ^ e)) => And.intro (hz.mid2 hx hz (ho.out hB)) (hz.store (ho.out hB) false))
 clear hz hx
 have hd := (digs_len_pos WB_one (n := a ^ e)).2 (by have := Nat.pow_pos (n := e) (show 0 < a by omega); omega)
 have t0 : (0 : Int) < (digs WB (a ^ e)).length := by omega
 go_enter Tryz.func297, Tryz.ntmps297
 go_wp2_with fail
 refine hS.out.mono ?_
 rintro e' w1 ⟨v', rfl, ho⟩
 obtain ⟨pv, kv, rfl⟩ := NatRow.form ho.at_
 obtain ⟨⟨⟨f1, c1', c2', f0, ⟨u0, c0'⟩, cx, cv⟩, ⟨_, _, c3', _, _, cy, _⟩⟩, hst⟩ := hM.out w1 _ ho
 have hst := Lib.hid hst
 clear ho
 go_wp2_with fail
 go_ret
 exact ⟨_, rfl, hst.out⟩
set_option maxRecDepth 100000 in
theorem intExp_any (w : World) (base bx gz oz gx ox a e : Nat) (zv xv : Value) (hz : IntAt w base gz oz false zv e) (hx : IntAt w bx gx ox false xv a) (hap : sameBlk zv xv = false) (hnil : e = 0 → zv = .slice none 0 0) (hB : base ≤ w.heap.size)
  (ha1 : 1 < a) (ha : a < WB) (he : e < 1000) (hl : (digs WB (a ^ e)).length ≤ 9) (hg : Thr w) (hGL : GL ≤ w.heap.size) :
  Calls Tryz.prog 275 #[.pointer (some ⟨gz, oz, none⟩), .pointer (some ⟨gx, ox, none⟩), .pointer (some ⟨gz, oz, none⟩), .pointer none] w fun e' w' => ∃ v', e' = .returned (.pointer (some ⟨gz, oz, none⟩)) ∧ IntOut w w' base gz oz zv false v' (a ^ e) := by
 have hS := Lib.hid (intexp_any w base bx gz oz gx ox a e zv xv hz hx hap hnil hB ha1 ha he hl hg hGL)
 clear hz hx
 go_enter Tryz.func275, Tryz.ntmps275
 go_wp2_with fail
 refine hS.out.mono ?_
 rintro e' w1 ⟨v', rfl, ho⟩
 have ho := Lib.hid ho
 go_wp2_with fail
 go_ret
 exact ⟨_, rfl, ho.out⟩
set_option maxRecDepth 100000 in
theorem natTen_any (w : World) : Calls Tryz.prog 229 #[] w fun e w' => ∃ g v, e = .returned (.pointer (some ⟨g, 0, none⟩)) ∧ IntNew w w' g false v 10 := by
 have hN := Lib.hid (newInt_any w 10 (by omega))
 go_enter Tryz.func229, Tryz.ntmps229
 go_wp2_with fail
 refine hN.out.mono ?_
 rintro e w1 ⟨g, v, rfl, hn, -⟩
 have hn := Lib.hid hn
 go_wp2_with fail
 go_ret
 exact ⟨_, _, rfl, hn.out⟩
set_option maxRecDepth 100000 in
theorem natZero_any (w : World) : Calls Tryz.prog 161 #[] w fun e w' => ∃ g v, e = .returned (.pointer (some ⟨g, 0, none⟩)) ∧ IntNew w w' g false v 0 := by
 have hN := Lib.hid (newInt_any w 0 (by omega))
 go_enter Tryz.func161, Tryz.ntmps161
 go_wp2_with fail
 refine hN.out.mono ?_
 rintro e w1 ⟨g, v, rfl, hn, -⟩
 have hn := Lib.hid hn
 go_wp2_with fail
 go_ret
 exact ⟨_, _, rfl, hn.out⟩
set_option maxRecDepth 100000 in
theorem encNatOne_any (w : World) : Calls Tryz.prog 228 #[] w fun e w' => ∃ g v, e = .returned (.pointer (some ⟨g, 0, none⟩)) ∧ IntNew w w' g false v 1 := by
 have hN := Lib.hid (newInt_any w 1 (by omega))
 go_enter Tryz.func228, Tryz.ntmps228
 go_wp2_with fail
 refine hN.out.mono ?_
 rintro e w1 ⟨g, v, rfl, hn, -⟩
 have hn := Lib.hid hn
 go_wp2_with fail
 go_ret
 exact ⟨_, _, rfl, hn.out⟩
theorem apartBlk {v u : Value} {b : Nat} (hv : ∀ k, v.ownBlock = some k → k < b) (hu : ∀ k, u.ownBlock = some k → b ≤ k) : sameBlk v u = false := by
 rw [Bool.eq_false_iff]
 intro h
 obtain ⟨h1, h2⟩ := (sameBlk_iff _ _).1 h
 obtain ⟨k, hk⟩ := Option.ne_none_iff_exists'.1 h2
 have := hv k hk
 have := hu k (h1 ▸ hk)
 omega
theorem IntNew.kept {w w1 w2 : World} {g n : Nat} {s : Bool} {v : Value} (h : IntNew w w1 g s v n) (hk : Keeps (fun _ => False) w1 w2) : IntNew w w2 g s v n :=
 ⟨h.at_.kept hk (fun h => h) (fun _ _ h => h), h.keep.trans hk (fun _ _ h => h), h.ge⟩
set_option maxRecDepth 100000 in
theorem exp10_any (w : World) (n : Nat) (hn : n < 1000) (hl : (digs WB (10 ^ n)).length ≤ 9) (hg : Thr w) (hGL : GL ≤ w.heap.size) :
  Calls Tryz.prog 225 #[.int .i64 n] w fun e w' => ∃ g v, e = .returned (.pointer (some ⟨g, 0, none⟩)) ∧ IntNew w w' g false v (10 ^ n) := by
 have hN := Lib.hid (newInt_any w n (by omega))
 have w1 : IntKind.i64.wrap (n : Int) = (n : Int) := by rw [IntKind.wrap_i64]; omega
 go_enter Tryz.func225, Tryz.ntmps225
 go_wp2_with fail
 refine hN.out.mono ?_
 rintro e w1 ⟨g, v, rfl, h1, hz⟩
 go_wp2_with fail
 refine (natTen_any w1).mono ?_
 rintro e w2 ⟨gx, xv, rfl, h2⟩
 have h12 := h1.kept h2.keep
 have hgg := hg.kept h12.keep (fun _ _ h => h)
 have hE := intExp_any w2 w.heap.size w1.heap.size g 0 gx 0 10 n v xv h12.at_ h2.at_ (apartBlk (fun k hk => (NatRow.lt h1.at_.nat k hk).2) (fun k hk => (NatRow.lt h2.at_.nat k hk).1)) hz h12.keep.size (by omega) (by rw [WB_eq]; omega) hn hl hgg (Nat.le_trans hGL h12.keep.size)
 have hE := Lib.hid hE
 have hge := h1.ge
 have hvb : ∀ k, v.ownBlock = some k → w.heap.size ≤ k := fun k hk => (NatRow.lt h12.at_.nat k hk).1
 have hk0 := h12.keep
 clear h12 h1 h2
 go_wp2_with fail
 refine hE.out.mono ?_
 rintro e w3 ⟨v', rfl, ho⟩
 have hI : IntNew w w3 g false v' (10 ^ n) := ⟨ho.at_, hk0.trans ho.keep (fun k hk h => h.elim (fun h => by omega) (fun h => by have := hvb k h; omega)), hge⟩
 have hI := Lib.hid hI
 go_wp2_with fail
 go_ret
 exact ⟨_, _, rfl, hI.out⟩
set_option maxRecDepth 100000 in
theorem intSetBytes_any (w : World) (base g o n c nz b : Nat) (s : Bool) (zv : Value) (xs : List Nat) (hz : IntAt w base g o s zv nz) (hx : VecB w b 0 xs) (hxl : xs.length = n) (hb : ∀ x ∈ xs, x < 256) (h0 : 0 < n) (hc : n ≤ c) (hn : n ≤ 10000) (hB : base ≤ w.heap.size) (hbz : zv.ownBlock ≠ some b) (hbl : b < w.heap.size) :
  Calls Tryz.prog 134 #[.pointer (some ⟨g, o, none⟩), .slice (some ⟨b, 0, none⟩) n c] w fun e w' => ∃ v', e = .returned (.pointer (some ⟨g, o, none⟩)) ∧ IntOut w w' base g o zv false v' (beVal xs) := by
 have hS := Lib.hid (setBytes_any w base b n c zv _ xs hz.nat hx hxl hb h0 hc hn hB hbz hbl)
 have c1 := hz.abs
 have hM := Lib.hid (fun (w1 : World) (v' : Value) (ho : NatOut w w1 base zv v' (digs WB (beVal xs))) => And.intro (hz.mid2 hz hz ho) (hz.store ho false))
 clear hz
 go_enter Tryz.func134, Tryz.ntmps134
 go_wp2_with fail
 refine hS.out.mono ?_
 rintro e w1 ⟨v', rfl, ho⟩
 obtain ⟨pv, kv, rfl⟩ := NatRow.form ho.row
 obtain ⟨⟨⟨f1, c1', c2', f0, ⟨u0, c0'⟩, cx, cv⟩, -⟩, hst⟩ := hM.out w1 _ ho
 have hst := Lib.hid hst
 clear ho
 go_wp2_with fail
 go_ret
 exact ⟨_, rfl, hst.out⟩
end Go.Proofs.YtgamldefngehlaaGreatDoor
namespace Go.Proofs.YtgamldefngehlaaGreatDoor
open Go.RowKit
def be8 (x : Nat) : List Nat := [x / 2 ^ 56 % 256, x / 2 ^ 48 % 256, x / 2 ^ 40 % 256, x / 2 ^ 32 % 256, x / 2 ^ 24 % 256, x / 2 ^ 16 % 256, x / 2 ^ 8 % 256, x % 256]
def beW : List Nat → List Nat
 | [] => []
 | x :: xs => beW xs ++ be8 x
theorem be8_length (x : Nat) : (be8 x).length = 8 := rfl
theorem beW_length : ∀ xs, (beW xs).length = 8 * xs.length
 | [] => rfl
 | x :: xs => by simp [beW, beW_length xs, be8_length]; omega
theorem be8_val {x : Nat} (h : x < WB) : beVal (be8 x) = x := by
 rw [WB_eq] at h
 simp only [be8, beVal, List.length_cons, List.length_nil]
 omega
theorem beW_val : ∀ xs, Words WB xs → beVal (beW xs) = val WB xs
 | [], _ => rfl
 | x :: xs, h => by
  rw [beW, beVal_append, be8_length, beW_val xs (fun y hy => h y (by simp [hy])), be8_val (h x (by simp)), val_cons, WB_256, Nat.mul_comm]
  omega
theorem beW_lt : ∀ xs, ∀ y ∈ beW xs, y < 256
 | [], y, h => by simp [beW] at h
 | x :: xs, y, h => by
  rw [beW, List.mem_append] at h
  rcases h with h | h
  ·exact beW_lt xs y h
  ·simp [be8] at h; omega
theorem beW_snoc (xs : List Nat) (x : Nat) : beW (xs ++ [x]) = be8 x ++ beW xs := by
 induction xs with
 | nil => simp [beW]
 | cons y ys ih => simp [beW, ih]
abbrev u8n (xs : List Nat) : List Value := xs.map (fun x : Nat => Value.int .u8 (x : Int))
def BlkB (w : World) (g : Nat) (C : List Nat) : Prop := w.heap[g]? = some (.cells (u8n C).toArray 5 (0, 0))
theorem BlkB.cell {w : World} {g : Nat} {C : List Nat} (h : BlkB w g C) (j : Nat) (hj : j < C.length) : w.cell? ⟨g, j, none⟩ = some (.int .u8 (C[j] : Int)) := by
 rw [cellOf h]; simp [u8n, List.getElem?_eq_getElem hj]
theorem BlkB.set {w : World} {g : Nat} {C : List Nat} (h : BlkB w g C) (j d : Nat) : BlkB (w.setCell ⟨g, j, none⟩ (.int .u8 (d : Int))) g (C.set j d) := by
 have := blk_setCell h j (.int .u8 (d : Int))
 unfold BlkB
 rw [this]
 congr 2
 simp [u8n, List.map_set]
theorem BlkB.vec {w : World} {g : Nat} {C : List Nat} (h : BlkB w g C) : VecB w g 0 C := fun j hj => by rw [Nat.zero_add]; exact h.cell j hj
theorem over_byte (C T : List Nat) (x i : Nat) (h : i + 1 + T.length = C.length) : (C.take (i + 1) ++ T).set i x = C.take i ++ x :: T := by
 rw [List.set_append_left _ _ (by simp; omega)]
 have : (C.take (i + 1)).set i x = C.take i ++ [x] := by
  refine List.ext_getElem (by simp; omega) fun j h1 h2 => ?_
  simp only [List.length_set, List.length_take] at h1
  by_cases e : j = i
  ·subst e; simp [List.getElem_append_right, Nat.min_eq_left (show j ≤ C.length by omega)]
  ·rw [List.getElem_set_ne (by omega), List.getElem_append_left (by simp; omega)]; simp
 rw [this, List.append_assoc]
 rfl
def lowB (x : Nat) : Nat → List Nat
 | 0 => []
 | k + 1 => (x / 256 ^ k % 256) :: lowB x k
theorem lowB_length (x : Nat) : ∀ k, (lowB x k).length = k
 | 0 => rfl
 | k + 1 => by simp [lowB, lowB_length x k]
theorem lowB_8 (x : Nat) : lowB x 8 = be8 x := by simp [lowB, be8]
set_option maxRecDepth 100000 in
set_option maxHeartbeats 1000000 in
theorem natBytes_any (w : World) (base gb : Nat) (v : Value) (C : List Nat) (a : Nat) (hx : NatAt w base v a) (hb : BlkB w gb C) (hl : C.length = 8 * (digs WB a).length) (hle : (digs WB a).length ≤ 1000) :
  Calls Tryz.prog 174 #[v, .slice (some ⟨gb, 0, none⟩) C.length C.length] w fun e w' => ∃ i : Nat, e = .returned (.int .i64 i) ∧ i ≤ C.length ∧ BlkB w' gb (beW (digs WB a)) ∧ (∀ j (h : j < (beW (digs WB a)).length), j < i → (beW (digs WB a))[j] = 0) ∧ (i < C.length → ∃ h : i < (beW (digs WB a)).length, (beW (digs WB a))[i] ≠ 0) ∧ Keeps (fun k => k = gb) w w' := by
 obtain ⟨xs, hxs⟩ : ∃ xs, digs WB a = xs := ⟨_, rfl⟩
 have wx := words_digs WB_one a
 unfold NatAt at hx
 rw [hxs] at hx hl hle wx ⊢
 obtain ⟨p, c, rfl⟩ := hx.form
 obtain ⟨L, hL⟩ : ∃ L, C.length = L := ⟨_, rfl⟩
 obtain ⟨n, hn⟩ : ∃ n, xs.length = n := ⟨_, rfl⟩
 rw [hn] at hl hle ⊢
 rw [hL] at hl ⊢
 have hLb : L ≤ 8000 := by omega
 have hlH := Lib.hid hl
 have hLH := Lib.hid hL
 clear hl hL
 go_enter Tryz.func174, Tryz.ntmps174
 go_wp2_with fail
 have hk0 := Keeps.refl (fun k => k = gb) w
 go_loopw [4, 12] (fun i ix wr => ∃ k q : Nat, k ≤ n ∧ q + 8 * k = L ∧ i = .int .i64 q ∧ ix = .int .i64 k ∧ BlkB wr gb (C.take q ++ beW (xs.take k)) ∧ Keeps (fun k => k = gb) w wr) (fun _ ix _ => n - (intOf ix).toNat)
 case atStart => exact ⟨0, L, Nat.zero_le _, by omega, rfl, rfl, by rw [List.take_of_length_le (by rw [hLH.out]; exact Nat.le_refl _)]; simpa [beW] using hb, hk0⟩
 case round =>
  obtain ⟨k, q, hk, hq, rfl, rfl, hB, hkp⟩ := hrel
  by_cases hlt : k < n
  ·have hl := hlH.out
   have hL := hLH.out
   have t0 : (k : Int) < n := by omega
   rcases hx with ⟨hv, rfl⟩ | ⟨g, Cx, hv, hbx, hCx, hwx, htx, h0x, hlx⟩
   ·simp at hn; omega
   injection hv with h1 h2 h3
   subst h1 h3
   have hgb : gb ≠ g := fun e => by
    subst e
    unfold BlkB at hb
    unfold Blk at hCx
    rw [hCx] at hb
    injection hb with hb
    injection hb with _ h2
    exact absurd h2 (by decide)
   have hvx := hCx.row (xs := xs) htx (by rw [← htx]; simp; omega)
   have hck := hkp.cellS (hvx k (by omega)) (fun e => hgb e.symm)
   rw [Nat.zero_add] at hck
   have wd := wx.get k (by omega)
   obtain ⟨d, hd⟩ : ∃ d, xs[k]'(by omega) = d := ⟨_, rfl⟩
   have hsn : xs.take (k + 1) = xs.take k ++ [d] := by rw [List.take_succ_eq_append_getElem (by omega), hd]
   rw [hd] at hck wd
   clear hl hL
   go_wp2_with fail
   go_loopw [4, 6, 7] (fun i dd j wx => ∃ m q' : Nat, m ≤ 8 ∧ q' + m = q ∧ i = .int .i64 q' ∧ dd = .int .u64 (d / 256 ^ m : Nat) ∧ j = .int .i64 m ∧ BlkB wx gb (C.take q' ++ (lowB d m ++ beW (xs.take k))) ∧ Keeps (fun k => k = gb) w wx) (fun _ _ j _ => 8 - (intOf j).toNat)
   case atStart => exact ⟨0, q, by omega, by omega, rfl, by rw [Nat.pow_zero, Nat.div_one], rfl, by simpa [lowB] using hB, hkp⟩
   case round =>
    obtain ⟨m, q', hm, hq', rfl, rfl, rfl, hB', hkp'⟩ := hrel
    by_cases hm8 : m < 8
    ·have hl := hlH.out
     have hL := hLH.out
     have t1 : (m : Int) < 8 := by omega
     obtain ⟨i, hi⟩ : ∃ i, q' = i + 1 := ⟨q' - 1, by omega⟩
     have e1 : (q' : Int) - 1 = (i : Int) := by omega
     have hlen : (C.take q' ++ (lowB d m ++ beW (xs.take k))).length = L := by simp [lowB_length, beW_length]; omega
     have hci := hB'.cell i (by omega)
     have hfi := frozenOf hB' i
     have b1 : (i : Int) < L := by omega
     have b0 : (0 : Int) ≤ i := by omega
     obtain ⟨dm, hdm⟩ : ∃ x, d / 256 ^ m = x := ⟨_, rfl⟩
     have hst := hB'.set i (dm % 256)
     rw [hi, over_byte C _ (dm % 256) i (by have := hlen; rw [← hL] at this; simp [lowB_length, beW_length] at this ⊢; omega)] at hst
     rw [show C.take i ++ dm % 256 :: (lowB d m ++ beW (xs.take k)) = C.take i ++ (lowB d (m + 1) ++ beW (xs.take k)) by rw [lowB, hdm]; rfl] at hst
     have hdl : dm < WB := by rw [← hdm]; exact Nat.lt_of_le_of_lt (Nat.div_le_self _ _) wd
     have e2 : IntKind.u8.wrap (dm : Int) = ((dm % 256 : Nat) : Int) := by simp [IntKind.wrap, IntKind.bits, IntKind.signed]
     have e3 : (dm : Int) / 256 = ((dm / 256 : Nat) : Int) := by simp
     have e4 : dm / 256 = d / 256 ^ (m + 1) := by rw [← hdm, Nat.div_div_eq_div_mul, Nat.pow_succ]
     rw [hdm]
     have hst := Lib.hid (And.intro hst (hkp'.setCell ⟨gb, i, none⟩ (.int .u8 ((dm % 256 : Nat) : Int)) (fun _ => rfl)))
     generalize (C.take q' ++ (lowB d m ++ beW (xs.take k)))[i]'(by omega) = old at *
     generalize dm % 256 = lo at *
     generalize hdq : dm / 256 = dq at *
     clear hB' hlen hdm hdl hl hL
     go_wp2_with fail
     go_roundw
     case rel => exact ⟨m + 1, i, by omega, by omega, rfl, by simp, by go_num, hst.out.1, hst.out.2⟩
     case measure => simp [intOf]; omega
    ·obtain rfl : m = 8 := by omega
     go_wp2_with fail
     go_roundw
     case rel => exact ⟨k + 1, q', by omega, by omega, rfl, by go_num, by rw [hsn, beW_snoc, ← lowB_8]; exact hB', hkp'⟩
     case measure => simp [intOf]; omega
  ·obtain rfl : k = n := by omega
   have hl := hlH.out
   have hL := hLH.out
   obtain rfl : q = 0 := by omega
   rw [List.take_zero, List.nil_append, List.take_of_length_le (by omega)] at hB
   have hZl : (beW xs).length = L := by rw [beW_length, hn, hl]
   clear hl hL
   obtain ⟨Z, hZ⟩ : ∃ Z, beW xs = Z := ⟨_, rfl⟩
   rw [hZ] at hB hZl
   go_wp2_with fail
   go_loopw [4] (fun i wx => ∃ p : Nat, p ≤ L ∧ i = .int .i64 p ∧ wx = wr ∧ ∀ j (h : j < Z.length), j < p → Z[j] = 0) (fun i _ => L - (intOf i).toNat)
   case atStart => exact ⟨0, Nat.zero_le _, rfl, rfl, fun _ _ h => absurd h (Nat.not_lt_zero _)⟩
   case round =>
    obtain ⟨p, hp, rfl, rfl, hz⟩ := hrel
    by_cases hpl : p < L
    ·have t1 : (p : Int) < L := by omega
     have hc := hB.cell p (by omega)
     by_cases h0 : Z[p]'(by omega) = 0
     ·rw [h0] at hc
      go_wp2_with fail
      go_roundw
      case rel =>
       refine ⟨p + 1, by omega, by go_num, trivial, fun j h hj => ?_⟩
       by_cases e : j = p
       ·subst e; exact h0
       ·exact hz j h (by omega)
      case measure => simp [intOf]; omega
     ·have t3 : ¬ ((Z[p]'(by omega) : Nat) : Int) = 0 := by omega
      have hnz : Z[p]'(by omega) ≠ 0 := h0
      generalize hzz : Z[p]'(by omega) = zp at hc t3
      go_wp2_with fail
      go_ret
      subst hZ
      exact ⟨p, rfl, hp, hB, hz, fun _ => ⟨by omega, hnz⟩, hkp⟩
    ·obtain rfl : p = L := by omega
     go_wp2_with fail
     go_ret
     subst hZ
     exact ⟨p, rfl, hp, hB, hz, fun h => absurd h (Nat.lt_irrefl _), hkp⟩
def beB (a : Nat) : List Nat := (beW (digs WB a)).dropWhile (· == 0)
theorem beB_val (a : Nat) : beVal (beB a) = a := by
 have h : ∀ xs : List Nat, beVal (xs.dropWhile (· == 0)) = beVal xs := fun xs => by
  induction xs with
  | nil => rfl
  | cons x xs ih =>
   rw [List.dropWhile_cons]
   split
   ·rename_i h
    rw [ih]
    have : x = 0 := by simpa using h
    subst this
    simp [beVal]
   ·rfl
 rw [beB, h, beW_val _ (words_digs WB_one a), val_digs WB_one]
theorem beB_lt (a : Nat) : ∀ y ∈ beB a, y < 256 := fun y h => beW_lt _ y ((List.dropWhile_sublist _).subset h)
theorem dropWhile_drop {Z : List Nat} {i : Nat} (hi : i ≤ Z.length) (h0 : ∀ j (h : j < Z.length), j < i → Z[j] = 0) (h1 : i < Z.length → ∃ h : i < Z.length, Z[i] ≠ 0) : Z.dropWhile (· == 0) = Z.drop i := by
 induction Z generalizing i with
 | nil => simp
 | cons z zs ih =>
  cases i with
  | zero =>
   obtain ⟨h, hz⟩ := h1 (by simp)
   rw [List.dropWhile_cons]
   have : (z == 0) = false := by simpa using hz
   rw [this]
   simp
  | succ i =>
   have hz : z = 0 := h0 0 (by simp) (by omega)
   subst hz
   rw [List.dropWhile_cons]
   simp only [beq_self_eq_true, if_true, List.drop_succ_cons]
   refine ih (by simpa using hi) (fun j h hj => ?_) (fun h => ?_)
   ·have := h0 (j + 1) (by simp; omega) (by omega)
    simpa using this
   ·obtain ⟨h', hh⟩ := h1 (by simp; omega)
    exact ⟨by simpa using h', by simpa using hh⟩
end Go.Proofs.YtgamldefngehlaaGreatDoor
namespace Go.Proofs.YtgamldefngehlaaGreatDoor
open Go.RowKit
theorem madeB_zeros (c : Nat) : madeCells #[Value.int .u8 0] c = (u8n (List.replicate c 0)).toArray := by
 refine Array.ext (by simp [madeCells]) fun i h1 h2 => ?_
 simp [madeCells, Nat.mod_one]
theorem info8 : (Tryz.prog.info? 5).map (fun i => (i.zero, i.size, i.bytes)) = some (some (.int .u8 0), 1, 1) := by kernel_rfl
theorem makeB (l : Nat) (hc : l ≤ 1000000) (w : World) :
  (Instr.makeSlice 22 (.int .i64 (l : Int)) (.int .i64 (l : Int))).run Tryz.prog w = .ok (.slice (some ⟨w.heap.size, 0, none⟩) l l) (w.alloc (.cells (madeCells #[Value.int .u8 0] l) 5 (0, 0))) := by
 obtain ⟨i, hi, hzz⟩ := Option.map_eq_some_iff.1 info8
 simp only [Prod.mk.injEq] at hzz
 obtain ⟨hz, hs, hb⟩ := hzz
 have hr := run_make (P := Tryz.prog) w 22 5 i (.int .u8 0) Tryz.underlying22 hi hz .i64 .i64 l l (by omega) (by omega) (by rw [hb]; omega) (by omega)
 simp only [Int.toNat_natCast, hs, Nat.mul_one] at hr
 exact hr
theorem blkB_zeros (w : World) (c : Nat) : BlkB (w.alloc (.cells (madeCells #[Value.int .u8 0] c) 5 (0, 0))) w.heap.size (List.replicate c 0) := by
 unfold BlkB
 rw [blk_new, madeB_zeros]
set_option maxRecDepth 100000 in
set_option maxHeartbeats 1000000 in
theorem intBytes_any (w : World) (base g o a : Nat) (s : Bool) (v : Value) (h : IntAt w base g o s v a) (hle : (digs WB a).length ≤ 1000) :
  Calls Tryz.prog 105 #[.pointer (some ⟨g, o, none⟩)] w fun e w' => ∃ b p c : Nat, e = .returned (.slice (some ⟨b, p, none⟩) (beB a).length c) ∧ (beB a).length ≤ c ∧ VecB w' b p (beB a) ∧ w.heap.size ≤ b ∧ Keeps (fun _ => False) w w' := by
 obtain ⟨L, hL⟩ : ∃ L, 8 * (digs WB a).length = L := ⟨_, rfl⟩
 have hmk := makeB L (by omega) w
 have hlL : (beW (digs WB a)).length = L := by rw [beW_length, hL]
 have hB := natBytes_any (w.alloc (.cells (madeCells #[Value.int .u8 0] L) 5 (0, 0))) base w.heap.size v (List.replicate L 0) a (NatRow.kept h.nat ((Keeps.refl (fun _ => False) w).alloc _) (fun _ _ h => h)) (blkB_zeros w L) (by rw [List.length_replicate, hL]) hle
 rw [List.length_replicate] at hB
 have hB := Lib.hid hB
 obtain ⟨p0, c0, rfl⟩ := NatRow.form h.nat
 have c1 := h.abs
 have c2 : (w.alloc (.cells (madeCells #[Value.int .u8 0] L) 5 (0, 0))).cell? ⟨g, o + 1, none⟩ = some (.slice p0 (digs WB a).length c0) := ((Keeps.refl (fun _ => False) w).alloc _).cellS c1 (fun h => h)
 have e1 : ((digs WB a).length : Int) * 8 = (L : Int) := by omega
 clear h
 go_enter Tryz.func105, Tryz.ntmps105
 go_wp2_with fail
 refine hB.out.mono ?_
 rintro e w1 ⟨i, rfl, hi, hb, h0, h1, hk⟩
 have hk1 : Keeps (fun _ => False) w w1 := ((Keeps.refl (fun _ => False) w).alloc _).trans hk (fun k hk e => by omega)
 have hd : beB a = (beW (digs WB a)).drop i := dropWhile_drop (by omega) h0 (fun h => h1 (by omega))
 have hbl : (beB a).length = L - i := by rw [hd, List.length_drop, hlL]
 have hcases : i < L ∨ (i = 0 ∧ L = 0) := by
  by_cases e : i < L
  ·exact .inl e
  ·refine .inr ?_
   have h3 := beB_val a
   rw [hd, List.drop_of_length_le (by omega)] at h3
   have h4 : a = 0 := h3.symm
   subst h4
   rw [digs_zero] at hL
   simp at hL
   omega
 have hv : VecB w1 w.heap.size i (beB a) := fun j hj => by
  have := hb.vec (i + j) (by omega)
  rw [Nat.zero_add] at this
  rw [this]
  congr 3
  have e2 : (beB a)[j]? = (beW (digs WB a))[i + j]? := by rw [hd]; simp
  rw [List.getElem?_eq_getElem hj, List.getElem?_eq_getElem (by omega)] at e2
  exact (Option.some.inj e2).symm
 have hsl : (Instr.slice 22 (.slice (some ⟨w.heap.size, 0, none⟩) L L) (some (.int .i64 (i : Int))) none none).run Tryz.prog w1 = .ok (.slice (some ⟨w.heap.size, i, none⟩) (beB a).length (beB a).length) w1 := by
  rcases hcases with hc | ⟨rfl, rfl⟩
  ·have := tail8 w.heap.size 0 L L i (by omega) hc w1
   rw [Nat.zero_add, ← hbl] at this
   exact this
  ·rw [show (((0 : Nat) : Int)) = 0 from rfl, run_slice_l w1 22 _ _ _ (by rw [elem8]; exact Tryz.underlying22) .i64 0 (by omega) (by omega), elem8, size8]
   simp [Result.andThen, sliced, hbl]
 have hfin := Lib.hid (And.intro hv (And.intro hk1 hbl))
 have b1 : (i : Int) ≤ L := by omega
 clear hB hd h0 h1 hcases hv hb
 go_wp2_with fail
 go_ret
 obtain ⟨hv, hk1, hbl⟩ := hfin.out
 exact ⟨w.heap.size, i, L - i, by rw [hbl]; rfl, by omega, hv, Nat.le_refl _, hk1⟩
end Go.Proofs.YtgamldefngehlaaGreatDoor
