import Derived.Test.YtemobphkgbhhhaaFlAll
import Derived.Test.YtemobphkgbhhhaaGrow
namespace Fl
open Ieee Go
/-! the root of a whole number: a number, 0 just if that is 0 -/
theorem sqrt_I {x : Nat} {n : Int} (h : IsI x n) (h0 : 0 ≤ n) (h53 : n ≤ 9007199254740992) : ∃ r q, D.sqrt x = some r ∧ V r q ∧ (q = 0 ↔ n = 0) := by
  by_cases hnz : n = 0
  · subst hnz
    obtain ⟨z, hz, hv⟩ := sqrt_zero (x := x) (by have h2 : V x ((0 : Int) : Rat) := h; rwa [Rat.intCast_zero] at h2)
    exact ⟨z, 0, hz, hv, by simp⟩
  · have hn1 : (1 : Rat) ≤ (n : Rat) := by
      have : ((1 : Int) : Rat) ≤ (n : Rat) := Rat.intCast_le_intCast.2 (by omega)
      simpa using this
    have hn2 : (n : Rat) ≤ ((9007199254740992 : Int) : Rat) := Rat.intCast_le_intCast.2 h53
    obtain ⟨z, hz, t0, t1, a1, a2, a3, a4, a5, a6⟩ := sqrt_V h (by grind)
    have hr : RN z t0 := a6 t0 Rat.le_refl a5 (by by_cases he : t0 * t0 = (n : Rat) <;> simp [he])
    have ht1 : (1 : Rat) < t1 := sq_lt (by grind) (by grind)
    have e53 : ((2 ^ 53 : Nat) : Rat) = 9007199254740992 := by norm_cast
    rw [e53] at a4
    have ht0 : (1 : Rat) < 2 * t0 := by grind
    have e531 : ((9007199254740992 : Int) : Rat) = 9007199254740992 := rfl
    rw [e531] at hn2
    have hle : t0 ≤ 9007199254740992 := by
      refine sq_le a1 (by grind) ?_
      grind
    have hbig : (9007199254740992 : Rat) ≤ p2 1023 := by
      have h1 : p2 53 ≤ p2 1023 := p2_mono (by decide)
      have h2 : p2 53 = 9007199254740992 := by
        have := p2_nat 53
        rw [show ((53 : Nat) : Int) = 53 from rfl] at this
        rw [this]; norm_cast
      grind
    obtain ⟨v, hv, u, u0, u1, u2, hu⟩ := hr.near (by grind) (by have := p2_pos 1023; grind)
    refine ⟨z, v, hz, hv, ?_⟩
    have hsm : p2 (-1074) ≤ p2 (-1) := p2_mono (by decide)
    have hh : p2 (-1) * 2 = 1 := by
      have := p2_add (-1) 1
      rw [show (-1 : Int) + 1 = 0 from rfl, p2_zero, p2_one] at this
      exact this.symm
    have e52 : ((2 ^ 52 : Nat) : Rat) = 4503599627370496 := by norm_cast
    rw [e52] at hu
    have hpos : 0 < v := by
      rcases hu with rfl | hu | hu
      · grind
      · grind
      · grind
    constructor
    · intro h; grind
    · intro h; exact absurd h hnz
end Fl
