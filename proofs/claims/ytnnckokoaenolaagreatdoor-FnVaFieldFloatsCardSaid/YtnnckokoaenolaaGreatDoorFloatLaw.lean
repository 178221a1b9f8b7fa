/- A float of 32 bits made one of 64 bits, and back: plain laws on words of bits. -/
import Derived.Laws.FloatArith
import Derived.Lib.Hide
set_option linter.unusedVariables false
set_option linter.unusedSimpArgs false
namespace Go.Proofs.YtnnckokoaenolaaGreatDoor
open Ieee

theorem cut_exact (neg : Bool) (m d : Nat) (hd : d ≤ (m * 2 ^ d).log2 + 2) : Toward.even.cut neg (m * 2 ^ d) d = m := by
  unfold Toward.cut
  have hg : (1 <<< min d ((m * 2 ^ d).log2 + 2)) = 2 ^ d := by rw [Nat.min_eq_left hd, Nat.one_shiftLeft]
  have hp : 0 < 2 ^ d := Nat.two_pow_pos d
  simp only [hg, Nat.mul_div_left m hp, Nat.mul_mod_left]
  simp

theorem log2_mul (m d : Nat) (hm : 0 < m) : (m * 2 ^ d).log2 = m.log2 + d := by
  rw [Nat.log2_eq_iff (by have := Nat.two_pow_pos d; have := Nat.mul_pos hm this; omega)]
  have h := (Nat.log2_eq_iff (k := m.log2) (by omega : m ≠ 0)).1 rfl
  refine ⟨by rw [Nat.pow_add]; exact Nat.mul_le_mul_right _ h.1, ?_⟩
  rw [show m.log2 + d + 1 = (m.log2 + 1) + d by omega, Nat.pow_add]
  exact Nat.mul_lt_mul_of_pos_right h.2 (Nat.two_pow_pos d)

/-- A number with few digits and a small exponent, as a word of 64 bits. -/
theorem nearest_double (neg : Bool) (m : Nat) (e : Int) (hm : 0 < m) (hm2 : m < 2 ^ 24) (he : -149 ≤ e) (he2 : e ≤ 104) :
    double.nearest neg m e = double.word neg ((e + m.log2 + 1022).toNat * 2 ^ 52 + m * 2 ^ (52 - m.log2)) := by
  have hL : m.log2 < 24 := (Nat.log2_lt (by omega)).2 hm2
  have h := (Nat.log2_eq_iff (k := m.log2) (by omega : m ≠ 0)).1 rfl
  unfold Format.nearest
  rw [if_neg (by omega)]
  have hl : double.leastPlace = -1074 := by decide
  have hf : (double.fractionBits : Int) = 52 := by decide
  have hlast : max (e + (m.log2 : Int) - double.fractionBits) double.leastPlace = e + m.log2 - 52 := by rw [hl, hf]; omega
  dsimp only
  rw [hlast, hl]
  have h1 : (e - (e + (m.log2 : Int) - 52)).toNat = 52 - m.log2 := by omega
  have h2 : ((e + (m.log2 : Int) - 52) - e).toNat = 0 := by omega
  have h3 : (e + (m.log2 : Int) - 52 - -1074).toNat = (e + m.log2 + 1022).toNat := by omega
  rw [h1, h2, h3, Nat.shiftLeft_eq]
  have hc := cut_exact neg (m * 2 ^ (52 - m.log2)) 0 (by omega)
  simp only [Nat.pow_zero, Nat.mul_one] at hc
  rw [hc]
  congr 1
  rw [Nat.min_eq_left]
  · rfl
  have hb : double.binade = 2 ^ 52 := rfl
  have hi : double.infRung = 2047 * 2 ^ 52 := by decide
  rw [hi, hb]
  have hk : m * 2 ^ (52 - m.log2) < 2 ^ 53 := by
    have : m * 2 ^ (52 - m.log2) < 2 ^ (m.log2 + 1) * 2 ^ (52 - m.log2) := Nat.mul_lt_mul_of_pos_right h.2 (Nat.two_pow_pos _)
    rw [← Nat.pow_add, show m.log2 + 1 + (52 - m.log2) = 53 by omega] at this
    exact this
  have ha : (e + m.log2 + 1022).toNat ≤ 1149 := by omega
  have key : ∀ A K : Nat, A ≤ 1149 → K < 2 ^ 53 → A * 2 ^ 52 + K ≤ 2047 * 2 ^ 52 := by intro A K h1 h2; omega
  exact key _ _ ha hk

theorem word_neg (f : Format) (neg : Bool) (r : Nat) (h : r < f.signWeight) : (f.word neg r / f.signWeight % 2 == 1) = neg ∧ f.word neg r % f.signWeight = r := by
  have hp : 0 < f.signWeight := by omega
  unfold Format.word
  cases neg
  · simp [Nat.div_eq_of_lt h, Nat.mod_eq_of_lt h]
  · simp only [if_true]
    rw [Nat.add_div_left r hp, Nat.div_eq_of_lt h, Nat.add_mod_left, Nat.mod_eq_of_lt h]
    exact ⟨rfl, rfl⟩

theorem read_word (f : Format) (neg : Bool) (r : Nat) (h : r < f.signWeight) : f.read (f.word neg r) =
    if r < f.binade then .number neg r f.leastPlace
    else if r < f.infRung then .number neg (f.binade + r % f.binade) (f.leastPlace + (r / f.binade - 1 : Nat))
    else if r = f.infRung then .infinity neg else .nan neg (r - f.infRung) := by
  obtain ⟨h1, h2⟩ := word_neg f neg r h
  unfold Format.read
  simp only [h1, h2]

theorem word_of (f : Format) (b : Nat) (h : b < 2 * f.signWeight) : ∃ neg r, r < f.signWeight ∧ b = f.word neg r := by
  by_cases hb : b < f.signWeight
  · exact ⟨false, b, hb, rfl⟩
  · exact ⟨true, b - f.signWeight, by omega, by simp [Format.word]; omega⟩

/-- A finite word of 32 bits: its number, widened, and narrowed again. -/
theorem wide_narrow (neg : Bool) (r : Nat) (h : r < 255 * 2 ^ 23) :
    ∃ y m e, single.read (single.word neg r) = .number neg m e ∧ double.write (.number neg m e) = y ∧ y < 2 ^ 64 ∧ ∃ m' e', double.read y = .number neg m' e' ∧ single.write (.number neg m' e') = single.word neg r ∧
      (m = 0 → y = double.word neg 0) := by
  have hs : single.signWeight = 2 ^ 31 := by decide
  have hsd : double.signWeight = 2 ^ 63 := by decide
  have hb : single.binade = 2 ^ 23 := rfl
  have hbd : double.binade = 2 ^ 52 := rfl
  have hi : single.infRung = 255 * 2 ^ 23 := by decide
  have hid : double.infRung = 2047 * 2 ^ 52 := by decide
  have hl : single.leastPlace = -149 := by decide
  have hld : double.leastPlace = -1074 := by decide
  have hr := read_word single neg r (by omega)
  rw [hb, hi, hl] at hr
  -- the number: m with at most 24 digits, at the place e; the rung is made of them
  obtain ⟨m, e, hre, hm2, he, he2, hcase, hrung⟩ : ∃ m e, single.read (single.word neg r) = .number neg m e ∧ m < 2 ^ 24 ∧ (-149 : Int) ≤ e ∧ e ≤ 104 ∧ (e = -149 ∨ 2 ^ 23 ≤ m) ∧ (e + 149).toNat * 2 ^ 23 + m = r := by
    by_cases h1 : r < 2 ^ 23
    · rw [if_pos h1] at hr
      exact ⟨r, -149, hr, by omega, by omega, by omega, .inl rfl, by simp⟩
    · rw [if_neg h1, if_pos h] at hr
      refine ⟨_, _, hr, by omega, by omega, by omega, .inr (by omega), ?_⟩
      have : (-149 + ((r / 2 ^ 23 - 1 : Nat) : Int) + 149).toNat = r / 2 ^ 23 - 1 := by omega
      rw [this]
      omega
  by_cases hm : m = 0
  · subst hm
    have hw : double.write (.number neg 0 e) = double.word neg 0 := by simp [Format.write, Format.nearest]
    have hr0 : r = 0 := by omega
    have hrd := read_word double neg 0 (by omega)
    rw [if_pos (by omega), hld] at hrd
    refine ⟨_, 0, e, hre, hw, ?_, 0, -1074, hrd, ?_, fun _ => rfl⟩
    · unfold Format.word; rw [hsd]; split <;> omega
    · subst hr0; simp [Format.write, Format.nearest]
  · have hm1 : 0 < m := by omega
    have hL : m.log2 < 24 := (Nat.log2_lt (by omega)).2 hm2
    have hlg := (Nat.log2_eq_iff (k := m.log2) (by omega : m ≠ 0)).1 rfl
    have hw := nearest_double neg m e hm1 hm2 he he2
    obtain ⟨K, hK⟩ : ∃ K, K = m * 2 ^ (52 - m.log2) := ⟨_, rfl⟩
    have hK1 : 2 ^ 52 ≤ K := by
      have : 2 ^ m.log2 * 2 ^ (52 - m.log2) ≤ m * 2 ^ (52 - m.log2) := Nat.mul_le_mul_right _ hlg.1
      rw [← Nat.pow_add, show m.log2 + (52 - m.log2) = 52 by omega] at this
      omega
    have hK2 : K < 2 ^ 53 := by
      have : m * 2 ^ (52 - m.log2) < 2 ^ (m.log2 + 1) * 2 ^ (52 - m.log2) := Nat.mul_lt_mul_of_pos_right hlg.2 (Nat.two_pow_pos _)
      rw [← Nat.pow_add, show m.log2 + 1 + (52 - m.log2) = 53 by omega] at this
      omega
    rw [← hK] at hw
    obtain ⟨A, hA⟩ : ∃ A, A = (e + m.log2 + 1022).toNat := ⟨_, rfl⟩
    have hA1 : A ≤ 1149 := by omega
    rw [← hA] at hw
    have hlt : A * 2 ^ 52 + K < 2047 * 2 ^ 52 := by omega
    have hrd := read_word double neg (A * 2 ^ 52 + K) (by omega)
    rw [hbd, hid, hld, if_neg (by omega), if_pos hlt] at hrd
    have e1 : 2 ^ 52 + (A * 2 ^ 52 + K) % 2 ^ 52 = K := by omega
    have e2 : (-1074 : Int) + (((A * 2 ^ 52 + K) / 2 ^ 52 - 1 : Nat) : Int) = e + m.log2 - 52 := by omega
    rw [e1, e2] at hrd
    refine ⟨_, m, e, hre, hw, ?_, K, _, hrd, ?_, fun h0 => absurd h0 hm⟩
    · unfold Format.word; rw [hsd]; split <;> omega
    · show single.nearest neg K (e + m.log2 - 52) = _
      unfold Format.nearest
      rw [if_neg (by omega)]
      have hKl : K.log2 = 52 := (Nat.log2_eq_iff (by omega)).2 ⟨hK1, hK2⟩
      have hlast : max (e + (m.log2 : Int) - 52 + (K.log2 : Int) - single.fractionBits) single.leastPlace = e := by
        rw [hl, hKl]
        have : (single.fractionBits : Int) = 23 := by decide
        rw [this]
        rcases hcase with h1 | h1
        · have : m.log2 ≤ 23 := by omega
          omega
        · have : m.log2 = 23 := (Nat.log2_eq_iff (by omega)).2 ⟨h1, hm2⟩
          omega
      dsimp only
      rw [hlast, hl, hb, hi]
      have h1 : (e + (m.log2 : Int) - 52 - e).toNat = 0 := by omega
      have h2 : (e - (e + (m.log2 : Int) - 52)).toNat = 52 - m.log2 := by omega
      rw [h1, h2, Nat.shiftLeft_zero, hK, cut_exact neg m (52 - m.log2) (by rw [← hK, hKl]; omega)]
      have h3 : (e - -149).toNat = (e + 149).toNat := by omega
      rw [h3, hrung, Nat.min_eq_left (by omega)]
end Go.Proofs.YtnnckokoaenolaaGreatDoor
