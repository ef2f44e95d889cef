import Derived.Test.YtegknlnkkoeahaaFlG
namespace Fl
open Ieee Go

theorem V_half : V 4602678819172646912 (p2 (-1)) := by
  refine ⟨false, 4503599627370496, -53, by decide +kernel, ?_⟩
  rw [dv_sign, show (4503599627370496 : Nat) = 2 ^ 52 from by decide, ← p2_nat]
  simp only [Bool.false_eq_true, if_false]
  rw [← p2_add]; rfl
theorem V_two : V 4611686018427387904 (p2 1) := by
  refine ⟨false, 4503599627370496, -51, by decide +kernel, ?_⟩
  rw [dv_sign, show (4503599627370496 : Nat) = 2 ^ 52 from by decide, ← p2_nat]
  simp only [Bool.false_eq_true, if_false]
  rw [← p2_add]; rfl

theorem rep_scaled (n : Int) (e : Int) (h : n.natAbs ≤ 2 ^ 53) (he : -1074 ≤ e) : Rep ((n : Rat) * p2 e) := ⟨decide (n < 0), n.natAbs, e, h, he, by rw [natAbs_val]⟩

theorem scaled_small (n : Int) (e : Int) (h : n.natAbs ≤ 2 ^ 53) (he : e ≤ 970) : (n : Rat) * p2 e ≤ p2 1023 ∧ -((n : Rat) * p2 e) ≤ p2 1023 := by
  have h1 : ((2 ^ 53 : Nat) : Rat) * p2 e ≤ p2 1023 := by rw [← p2_nat, ← p2_add]; exact p2_mono (by omega)
  have h2 : (n : Rat) ≤ ((2 ^ 53 : Nat) : Rat) := by
    rw [← Rat.intCast_natCast]; exact Rat.intCast_le_intCast.2 (by omega)
  have h3 : -(n : Rat) ≤ ((2 ^ 53 : Nat) : Rat) := by
    rw [← Rat.intCast_neg, ← Rat.intCast_natCast]; exact Rat.intCast_le_intCast.2 (by omega)
  have hp := Rat.le_of_lt (p2_pos e)
  have h4 := Rat.mul_le_mul_of_nonneg_right h2 hp
  have h5 := Rat.mul_le_mul_of_nonneg_right h3 hp
  constructor <;> grind

theorem half_I {s : Nat} {n : Int} (h : IsI s n) (hn : n.natAbs ≤ 2 ^ 53) : ∃ c, floatBits .mul .f64 4602678819172646912 s = some c ∧ V c ((n : Rat) * p2 (-1)) := by
  obtain ⟨c, e, hc⟩ := mul_V V_half h
  rw [Rat.mul_comm] at hc
  exact ⟨c, e, hc.exact (rep_scaled n (-1) hn (by decide)) (scaled_small n (-1) hn (by decide)).1 (scaled_small n (-1) hn (by decide)).2⟩
theorem halved_I {s : Nat} {n : Int} (h : IsI s n) (hn : n.natAbs ≤ 2 ^ 53) : ∃ c, floatBits .quo .f64 s 4611686018427387904 = some c ∧ V c ((n : Rat) * p2 (-1)) := by
  obtain ⟨c, e, hc⟩ := div_V h V_two (p2_ne 1)
  have : (n : Rat) / p2 1 = (n : Rat) * p2 (-1) := by
    have h1 : p2 1 * p2 (-1) = 1 := by rw [← p2_add, ← p2_zero]; rfl
    have h2 := p2_ne 1
    have h3 : (n : Rat) / p2 1 * p2 1 = n := Rat.div_mul_cancel h2
    grind
  rw [this] at hc
  exact ⟨c, e, hc.exact (rep_scaled n (-1) hn (by decide)) (scaled_small n (-1) hn (by decide)).1 (scaled_small n (-1) hn (by decide)).2⟩
theorem eqV {x y : Nat} {q : Rat} (hx : V x q) (hy : V y q) : (FloatKind.f64.format.order x y == some .eq) = true := by rw [eq_V hx hy]; simp
end Fl
