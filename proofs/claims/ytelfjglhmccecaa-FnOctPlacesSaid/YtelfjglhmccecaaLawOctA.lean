import Derived.Test.YtelfjglhmccecaaOctI
import Derived.Test.YtelfjglhmccecaaOctV
import Derived.Test.YtelfjglhmccecaaRow
import Derived.BigRegion
namespace Go.Proofs.Ytelfjglhmccecaa
open Go.ChangeShapes Go.WideShapes Go.ChangeAt Go.RowKit Go.GrowR
set_option linter.unusedVariables false
set_option linter.unusedSimpArgs false
theorem isI_24 : Fl.IsI 4715268809856909312 16777216 := by
  refine ⟨false, 4503599627370496, -28, by decide +kernel, ?_⟩
  simp only [Fl.dv, Bool.false_eq_true, if_false]
  rw [show (4503599627370496 : Nat) = 16777216 * 2 ^ 28 from by decide, Rat.natCast_mul, ← Fl.p2_nat, Rat.mul_assoc, ← Fl.p2_add]
  rw [show ((28 : Nat) : Int) + -28 = 0 from by decide, Fl.p2_zero, Rat.mul_one]; rfl
/-- either the places are not told, or these are so many places, all whole -/
theorem flat_cases (lay : Int) (xs : List Nat) :
    (∀ u w, FSl u xs w → xs.length ≤ 1099511627776 → Calls Try.prog 16 #[.int .i64 lay, u, .float .f64 4715268809856909312, .int .i64 60] w (fun e w' => ∃ v, e = .returned (.tuple #[v, .bool false]) ∧ (∃ A n c, v = .slice A n c) ∧ Grow w w')) ∨
    ∃ s K : Nat, ∃ X Y, strideN lay = s ∧ 2 ≤ s ∧ s ≤ 9 ∧ 1 ≤ lay ∧ lay ≤ 8 ∧ xs.length = K * s ∧ K ≤ 60 ∧ Ints xs s K X Y ∧
      (∀ u w, FSl u xs w → Calls Try.prog 16 #[.int .i64 lay, u, .float .f64 4715268809856909312, .int .i64 60] w (FlatP true xs s K w)) := by
  by_cases h : 1 ≤ lay ∧ lay ≤ 8
  case neg =>
    refine .inl fun u w hu hl => (flatTo_out lay u xs _ 60 w hu (by decide) hl (.inl h)).mono ?_
    rintro e w' ⟨v, rfl, ⟨A, c, rfl, -, -⟩, hg⟩
    exact ⟨_, rfl, ⟨_, _, _, rfl⟩, hg⟩
  obtain ⟨l1, l8⟩ := h
  obtain ⟨s, hs, s2, s9⟩ := stride_nat lay l1 (by omega)
  by_cases h : xs.length % s = 0 ∧ xs.length ≤ s * 60
  case neg =>
    refine .inl fun u w hu hl => (flatTo_out lay u xs _ 60 w hu (by decide) hl (.inr ⟨s, hs, s2, s9, l1, l8, h⟩)).mono ?_
    rintro e w' ⟨v, rfl, ⟨A, c, rfl, -, -⟩, hg⟩
    exact ⟨_, rfl, ⟨_, _, _, rfl⟩, hg⟩
  obtain ⟨h0, h60⟩ := h
  have hK : xs.length = xs.length / s * s := by
    have := Nat.div_add_mod xs.length s
    rw [h0, Nat.add_zero, Nat.mul_comm] at this; exact this.symm
  have hK60 : xs.length / s ≤ 60 := Nat.div_le_of_le_mul h60
  generalize xs.length / s = K at hK hK60
  cases hb : (pls xs s K).all (placeB 16777216) with
  | false =>
    refine .inl fun u w hu hl => (flatTo_in lay s K u xs 16777216 _ 60 isI_24 (by decide) w hu (by decide) l1 l8 hs s2 s9 hK hK60).mono ?_
    rw [hb]
    rintro e w' ⟨v, rfl, ⟨A, c, rfl, -, -⟩, hg⟩
    exact ⟨_, rfl, ⟨_, _, _, rfl⟩, hg⟩
  | true =>
    obtain ⟨X, Y, hi⟩ := ints_of hb
    refine .inr ⟨s, K, X, Y, hs, s2, s9, l1, l8, hK, hK60, hi, fun u w hu => ?_⟩
    rw [← hb]
    exact flatTo_in lay s K u xs 16777216 _ 60 isI_24 (by decide) w hu (by decide) l1 l8 hs s2 s9 hK hK60
theorem rowV_sl {b o c s i : Nat} {xs : List Nat} {w : World} (hc : FCells w b o xs) (hi : i * s + s ≤ xs.length) (hl : xs.length ≤ c) : FSl (rowV b o c s i) (rowN xs s i) w := by
  refine ⟨_, c - i * s, by rw [rowN_len]; rfl, by rw [rowN_len]; omega, .inr ⟨b, o + i * s, rfl, fun t x ht => ?_⟩⟩
  have hts : t < s := by
    rcases Nat.lt_or_ge t s with h | h
    · exact h
    · rw [List.getElem?_eq_none (by rw [rowN_len]; exact h)] at ht; cases ht
  rw [rowN_get hts] at ht
  cases ht
  have h := hc (i * s + t) _ (getD_some (by omega))
  rwa [← Nat.add_assoc] at h
theorem getD_mem {xs : List Nat} {i : Nat} (h : i < xs.length) : xs.getD i 0 ∈ xs := by
  rw [List.getD_eq_getElem?_getD, List.getElem?_eq_getElem h]; exact List.getElem_mem h
theorem row_in {s K i : Nat} {xs : List Nat} (hK : xs.length = K * s) (hi : i < K) : i * s + s ≤ xs.length := by
  have h3 : (i + 1) * s ≤ K * s := Nat.mul_le_mul_right s hi
  rw [Nat.add_mul] at h3; omega
theorem octN_fin {xs : List Nat} {s K : Nat} {a : Nat → Nat} (hx : xs.all finB = true) (hK : xs.length = K * s) (ha : ∀ j, a j < K) (m : Nat) : (octN xs s a m).all finB = true := by
  rw [List.all_eq_true]
  intro x hx'
  unfold octN at hx'
  obtain ⟨j, -, hj⟩ := List.mem_flatMap.1 hx'
  unfold rowN at hj
  obtain ⟨t, ht, rfl⟩ := List.mem_map.1 hj
  have hts : t < s := by simpa using ht
  have := row_in hK (ha j)
  exact List.all_eq_true.1 hx _ (getD_mem (by omega))
theorem rowN_oct {xs : List Nat} {s j : Nat} {a : Nat → Nat} (hj : j < 8) : rowN (octN xs s a 8) s j = rowN xs s (a j) := by
  unfold rowN
  apply List.map_congr_left
  intro t ht
  have hts : t < s := by simpa using ht
  rw [List.getD_eq_getElem?_getD, octN_get hj hts]; rfl
theorem rowN_fin {xs : List Nat} {s K i : Nat} (hx : xs.all finB = true) (hK : xs.length = K * s) (hi : i < K) : (rowN xs s i).all finB = true := by
  rw [List.all_eq_true]
  intro x hx'
  unfold rowN at hx'
  obtain ⟨t, ht, rfl⟩ := List.mem_map.1 hx'
  have hts : t < s := by simpa using ht
  have := row_in hK hi
  exact List.all_eq_true.1 hx _ (getD_mem (by omega))
theorem ints_oct {xs : List Nat} {s K : Nat} {X Y : Nat → Int} {a : Nat → Nat} (h : Ints xs s K X Y) (s2 : 2 ≤ s) (ha : ∀ j, a j < K) : Ints (octN xs s a 8) s 8 (fun j => X (a j)) (fun j => Y (a j)) := by
  intro j hj
  have h0 := octN_get (xs := xs) (s := s) (a := a) (m := 8) (j := j) (t := 0) hj (by omega)
  have h1 := octN_get (xs := xs) (s := s) (a := a) (m := 8) (j := j) (t := 1) hj (by omega)
  rw [Nat.add_zero, Nat.add_zero] at h0
  rw [List.getD_eq_getElem?_getD, List.getD_eq_getElem?_getD, h0, h1]
  exact h (a j) (ha j)
end Go.Proofs.Ytelfjglhmccecaa
