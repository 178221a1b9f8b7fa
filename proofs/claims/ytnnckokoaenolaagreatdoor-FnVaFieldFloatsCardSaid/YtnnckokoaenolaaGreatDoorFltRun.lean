/- Floats: what a difference, a comparison and a conversion give, whatever the float. -/
import Derived.Test.YtnnckokoaenolaaGreatDoorFltFld
import Derived.Test.YtnnckokoaenolaaGreatDoorFloatLaw
set_option linter.unusedVariables false
set_option linter.unusedSimpArgs false
namespace Go.Proofs.YtnnckokoaenolaaGreatDoor
open Go.RowKit
open Ieee

/-- A word of 64 bits that is a number. -/
def Fin64 (x : Nat) : Prop := ∃ s m e, double.read x = .number s m e

theorem fin_lt {x : Nat} (h : Fin64 x) (hx : x < 2 ^ 64) : x < 18446744073709551615 := by
  by_cases e : x = 18446744073709551615
  · subst e
    obtain ⟨s, m, e, h⟩ := h
    have : double.read 18446744073709551615 = .nan true (2 ^ 52 - 1) := by decide +kernel
    rw [this] at h
    cases h
  · omega

theorem signed_opp (s : Bool) (m : Nat) : signed s m 0 + signed (!s) m 0 = 0 := by
  cases s <;> simp [signed] <;> omega
theorem fin_sub {x : Nat} (h : Fin64 x) : FloatKind.f64.format.sub x x = some 0 := by
  obtain ⟨s, m, e, h⟩ := h
  show Option.map double.write ((double.read x).sum (double.read x).opposite) = some 0
  rw [h]
  simp only [Datum.opposite, Datum.sum, Int.min_self, Int.sub_self, Int.toNat_zero, signed_opp]
  simp [Format.write, Format.nearest, Format.word]
theorem fin_order {x : Nat} (h : Fin64 x) : FloatKind.f64.format.order x x = some .eq := by
  obtain ⟨s, m, e, h⟩ := h
  show (double.read x).order (double.read x) = some .eq
  rw [h]
  simp [Datum.order]
theorem order_00 : FloatKind.f64.format.order 0 0 = some .eq := by decide +kernel
theorem inf_sub {x : Nat} (h : ¬ Fin64 x) : FloatKind.f64.format.sub x x = none := by
  show Option.map double.write ((double.read x).sum (double.read x).opposite) = none
  cases hr : double.read x with
  | number s m e => exact absurd ⟨s, m, e, hr⟩ h
  | infinity s => cases s <;> rfl
  | nan s t => rfl
/-- What the tape answers where a NaN is asked for reads as a NaN. -/
theorem nan_read (t : Nat) : ∃ s f, double.read ((t % 2) * 2 ^ 63 + 0x7ff0000000000000 + 1 + (t / 2) % (2 ^ 52 - 1)) = .nan s f := by
  have hs : double.signWeight = 2 ^ 63 := by decide
  have hb : double.binade = 2 ^ 52 := rfl
  have hi : double.infRung = 2047 * 2 ^ 52 := by decide
  have hq : (t / 2) % (2 ^ 52 - 1) < 2 ^ 52 - 1 := Nat.mod_lt _ (by decide)
  obtain ⟨q, hq'⟩ : ∃ q, q = (t / 2) % (2 ^ 52 - 1) := ⟨_, rfl⟩
  rw [← hq'] at hq ⊢
  have h2 : t % 2 = 0 ∨ t % 2 = 1 := by omega
  have hmod : ((t % 2) * 2 ^ 63 + 0x7ff0000000000000 + 1 + q) % 2 ^ 63 = 2047 * 2 ^ 52 + 1 + q := by
    rcases h2 with h2 | h2 <;> rw [h2] <;> omega
  unfold Format.read
  rw [hs, hb, hi, hmod]
  simp only
  rw [if_neg (by omega), if_neg (by omega), if_neg (by omega)]
  exact ⟨_, _, rfl⟩
theorem nan_order' (y : Nat) (h : ∃ t, y = (t % 2) * 2 ^ 63 + 0x7ff0000000000000 + 1 + (t / 2) % (2 ^ 52 - 1)) : ∃ s f, double.read y = .nan s f := by
  obtain ⟨t, rfl⟩ := h
  exact nan_read t
theorem nan_order (x t : Nat) : FloatKind.f64.format.order ((Question.nanBits .f64 x x).cut t) 0 ≠ some .eq := by
  obtain ⟨s, f, hr⟩ := nan_read t
  show (double.read ((t % 2) * 2 ^ 63 + 0x7ff0000000000000 + 1 + (t / 2) % (2 ^ 52 - 1))).order (double.read 0) ≠ some .eq
  rw [hr]
  simp [Datum.order]

variable (w : World)
theorem run_sub_fin {x : Nat} (h : Fin64 x) : (binOp .sub 22 (.float .f64 x) (.float .f64 x)).run Tryz.prog w = .ok (.float .f64 0) w :=
  run_float_arith w .sub 22 .f64 x x 0 (fin_sub h)
theorem run_sub_inf {x : Nat} (h : ¬ Fin64 x) : ∃ r, (binOp .sub 22 (.float .f64 x) (.float .f64 x)).run Tryz.prog w = .ok (.float .f64 r) w.drew ∧ FloatKind.f64.format.order r 0 ≠ some .eq := by
  refine ⟨_, ?_, nan_order x (w.tape w.drawn (.nanBits .f64 x x))⟩
  simp [binOp, Op.floatArith, inf_sub h, Question.forced]

theorem short_of {neg : Bool} {r : Nat} (h : r < 255 * 2 ^ 23) : ∃ x, Short x (single.word neg r) ∧ Fin64 x ∧ x < 2 ^ 64 := by
  obtain ⟨y, m, e, h1, h2, h3, m', e', h4, h5, h6⟩ := wide_narrow neg r h
  have hs : single.signWeight = 2 ^ 31 := by decide
  have hrd := read_word single neg r (by omega)
  have hb : single.binade = 2 ^ 23 := rfl
  have hi : single.infRung = 255 * 2 ^ 23 := by decide
  rw [h1] at hrd
  refine ⟨y, ⟨?_, ?_, ?_⟩, ⟨neg, m', e', h4⟩, h3⟩
  · show (if FloatKind.f64 = FloatKind.f32 then some y else match double.read y with | .nan _ _ => none | .infinity s => some (single.write (.infinity s)) | .number s m e => if (single.read (single.write (.number s m e))).isInfinity then none else some (single.write (.number s m e))) = _
    rw [if_neg (by decide), h4]
    simp only [h5, h1, Datum.isInfinity]
    rfl
  · show (if FloatKind.f32 = FloatKind.f64 then some (single.word neg r) else match single.read (single.word neg r) with | .nan _ _ => none | .infinity s => some (double.write (.infinity s)) | .number s m e => if (double.read (double.write (.number s m e))).isInfinity then none else some (double.write (.number s m e))) = _
    rw [if_neg (by decide), h1]
    simp only [h2, h4, Datum.isInfinity]
    rfl
  · unfold Format.word
    rw [hs]
    split <;> omega

/-- A float of 64 bits, narrowed: some float of 32 bits. -/
theorem narrow_any (x : Nat) : ∃ b w', (convert 22 51 (.float .f64 x)).run Tryz.prog w = .ok (.float .f32 b) w' ∧ b < 2 ^ 32 ∧ (w' = w ∨ w' = w.drew) := by
  have hu := Tryz.underlying22
  have hv := Tryz.underlying51
  have hw : ∀ d, single.write d < 2 ^ 32 := fun d => Format.write_lt single d
  cases hr : double.read x with
  | number s m e =>
    by_cases hi : (single.read (single.write (.number s m e))).isInfinity = true
    · refine ⟨(Question.floatToFloat x).cut (w.tape w.drawn (.floatToFloat x)), w.drew, ?_, ?_, .inr rfl⟩
      · simp [convert, run_underlying hu, run_underlying hv, Conv.floatToFloat, FloatKind.decode, FloatKind.encode, FloatKind.format, hr, hi, Question.forced]
      · exact Nat.mod_lt _ (by decide)
    · refine ⟨single.write (.number s m e), w, ?_, hw _, .inl rfl⟩
      simp [convert, run_underlying hu, run_underlying hv, Conv.floatToFloat, FloatKind.decode, FloatKind.encode, FloatKind.format, hr, hi]
  | infinity s =>
    refine ⟨single.write (.infinity s), w, ?_, hw _, .inl rfl⟩
    simp [convert, run_underlying hu, run_underlying hv, Conv.floatToFloat, FloatKind.decode, FloatKind.encode, FloatKind.format, hr]
  | nan s f =>
    refine ⟨(Question.nanConv .f32 x).cut (w.tape w.drawn (.nanConv .f32 x)), w.drew, ?_, ?_, .inr rfl⟩
    · simp [convert, run_underlying hu, run_underlying hv, Conv.floatToFloat, FloatKind.decode, FloatKind.encode, FloatKind.format, hr, Question.forced]
    · show (_ % 2) * 2 ^ 31 + 0x7f800000 + 1 + (_ / 2) % (2 ^ 23 - 1) < 2 ^ 32
      omega

/-- A float of 32 bits, widened: the same number, or no number. -/
theorem widen_any (b : Nat) (hb : b < 2 ^ 32) : ∃ x w', (convert 51 22 (.float .f32 b)).run Tryz.prog w = .ok (.float .f64 x) w' ∧ ((Short x b ∧ Fin64 x ∧ x < 2 ^ 64) ∨ ¬ Fin64 x) ∧ (w' = w ∨ w' = w.drew) := by
  have hu := Tryz.underlying22
  have hv := Tryz.underlying51
  have hs : single.signWeight = 2 ^ 31 := by decide
  have hbd : single.binade = 2 ^ 23 := rfl
  have hi : single.infRung = 255 * 2 ^ 23 := by decide
  obtain ⟨neg, r, hr, rfl⟩ := word_of single b (by omega)
  by_cases h : r < 255 * 2 ^ 23
  · obtain ⟨x, h1, h2, h3⟩ := short_of (neg := neg) h
    exact ⟨x, w, h1.toLong w, .inl ⟨h1, h2, h3⟩, .inl rfl⟩
  · have hrd := read_word single neg r hr
    rw [hbd, hi, if_neg (by omega), if_neg (by omega)] at hrd
    by_cases he : r = 255 * 2 ^ 23
    · rw [if_pos he] at hrd
      refine ⟨double.write (.infinity neg), w, ?_, .inr ?_, .inl rfl⟩
      · simp [convert, run_underlying hu, run_underlying hv, Conv.floatToFloat, FloatKind.decode, FloatKind.encode, FloatKind.format, hrd]
      · rintro ⟨s, m, e, h⟩
        have : double.read (double.write (.infinity neg)) = .infinity neg := by cases neg <;> decide +kernel
        rw [this] at h
        cases h
    · rw [if_neg he] at hrd
      refine ⟨(Question.nanConv .f64 (single.word neg r)).cut (w.tape w.drawn (.nanConv .f64 (single.word neg r))), w.drew, ?_, .inr ?_, .inr rfl⟩
      · simp [convert, run_underlying hu, run_underlying hv, Conv.floatToFloat, FloatKind.decode, FloatKind.encode, FloatKind.format, hrd, Question.forced]
      · rintro ⟨s, m, e, h⟩
        have h' := nan_order' ((Question.nanConv .f64 (single.word neg r)).cut (w.tape w.drawn (.nanConv .f64 (single.word neg r)))) ⟨_, rfl⟩
        obtain ⟨s', f', h'⟩ := h'
        rw [h'] at h
        cases h
end Go.Proofs.YtnnckokoaenolaaGreatDoor
