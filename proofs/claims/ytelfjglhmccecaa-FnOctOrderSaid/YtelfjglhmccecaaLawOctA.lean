import Derived.Test.YtelfjglhmccecaaOctI
import Derived.Test.YtelfjglhmccecaaOctV
import Derived.Test.YtelfjglhmccecaaRow
import Derived.BigRegion
namespace Go.Proofs.Ytelfjglhmccecaa
open Go.ChangeShapes Go.WideShapes Go.ChangeAt Go.RowKit Go.GrowR
set_option linter.unusedVariables false
set_option linter.unusedSimpArgs false
theorem isI_24 : Fl.IsI 4715268809856909312 16777216 := by
  refine ⟨false, 4503599627370496, -28, by decide +kernel, ?_⟩
  simp only [Fl.dv, Bool.false_eq_true, if_false]
  rw [show (4503599627370496 : Nat) = 16777216 * 2 ^ 28 from by decide, Rat.natCast_mul, ← Fl.p2_nat, Rat.mul_assoc, ← Fl.p2_add]
  rw [show ((28 : Nat) : Int) + -28 = 0 from by decide, Fl.p2_zero, Rat.mul_one]; rfl
/-- either the places are not told, or these are so many places, all whole -/
theorem flat_cases (lay : Int) (xs : List Nat) :
    (∀ u w, FSl u xs w → xs.length ≤ 1099511627776 → Calls Try.prog 16 #[.int .i64 lay, u, .float .f64 4715268809856909312, .int .i64 60] w (fun e w' => ∃ v, e = .returned (.tuple #[v, .bool false]) ∧ (∃ A n c, v = .slice A n c) ∧ Grow w w')) ∨
    ∃ s K : Nat, ∃ X Y, strideN lay = s ∧ 2 ≤ s ∧ s ≤ 9 ∧ 1 ≤ lay ∧ lay ≤ 8 ∧ xs.length = K * s ∧ K ≤ 60 ∧ Ints xs s K X Y ∧
      (∀ u w, FSl u xs w → Calls Try.prog 16 #[.int .i64 lay, u, .float .f64 4715268809856909312, .int .i64 60] w (FlatP true xs s K w)) := by
  by_cases h : 1 ≤ lay ∧ lay ≤ 8
  case neg =>
    refine .inl fun u w hu hl => (flatTo_out lay u xs _ 60 w hu (by decide) hl (.inl h)).mono ?_
    rintro e w' ⟨v, rfl, ⟨A, c, rfl, -, -⟩, hg⟩
    exact ⟨_, rfl, ⟨_, _, _, rfl⟩, hg⟩
  obtain ⟨l1, l8⟩ := h
  obtain ⟨s, hs, s2, s9⟩ := stride_nat lay l1 (by omega)
  by_cases h : xs.length % s = 0 ∧ xs.length ≤ s * 60
  case neg =>
    refine .inl fun u w hu hl => (flatTo_out lay u xs _ 60 w hu (by decide) hl (.inr ⟨s, hs, s2, s9, l1, l8, h⟩)).mono ?_
    rintro e w' ⟨v, rfl, ⟨A, c, rfl, -, -⟩, hg⟩
    exact ⟨_, rfl, ⟨_, _, _, rfl⟩, hg⟩
  obtain ⟨h0, h60⟩ := h
  have hK : xs.length = xs.length / s * s := by
    have := Nat.div_add_mod xs.length s
    rw [h0, Nat.add_zero, Nat.mul_comm] at this; exact this.symm
  have hK60 : xs.length / s ≤ 60 := Nat.div_le_of_le_mul h60
  generalize xs.length / s = K at hK hK60
  cases hb : (pls xs s K).all (placeB 16777216) with
  | false =>
    refine .inl fun u w hu hl => (flatTo_in lay s K u xs 16777216 _ 60 isI_24 (by decide) w hu (by decide) l1 l8 hs s2 s9 hK hK60).mono ?_
    rw [hb]
    rintro e w' ⟨v, rfl, ⟨A, c, rfl, -, -⟩, hg⟩
    exact ⟨_, rfl, ⟨_, _, _, rfl⟩, hg⟩
  | true =>
    obtain ⟨X, Y, hi⟩ := ints_of hb
    refine .inr ⟨s, K, X, Y, hs, s2, s9, l1, l8, hK, hK60, hi, fun u w hu => ?_⟩
    rw [← hb]
    exact flatTo_in lay s K u xs 16777216 _ 60 isI_24 (by decide) w hu (by decide) l1 l8 hs s2 s9 hK hK60
end Go.Proofs.Ytelfjglhmccecaa
