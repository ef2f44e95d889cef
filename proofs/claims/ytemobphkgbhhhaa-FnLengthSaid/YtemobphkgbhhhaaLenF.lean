import Derived.Test.YtemobphkgbhhhaaSqI
import Derived.Test.YtemobphkgbhhhaaGrow
namespace Fl
open Ieee Go
/-! whole numbers of floats, roots of squares, numbers within bounds -/
/-- the whole number that a float is -/
def iv (x : Nat) : Int := tz (dv (D.read x))
theorem IsI.iv {x : Nat} {n : Int} (h : IsI x n) : iv x = n := by
  obtain ⟨s, m, p, e, h⟩ := h
  unfold Fl.iv; rw [e, h, tz_int]
theorem sqrt_sq {x : Nat} {d : Int} (h : IsI x (d * d)) (hd : d.natAbs ≤ 2 ^ 53) : ∃ r, D.sqrt x = some r ∧ IsI r (d.natAbs : Int) := by
  have he : d * d = (d.natAbs : Int) * (d.natAbs : Int) := by rw [Int.natAbs_mul_self']
  by_cases h0 : d = 0
  · subst h0
    obtain ⟨r, h1, h2⟩ := sqrt_zero (x := x) (by have h2 : V x (((0 : Int) * 0 : Int) : Rat) := h; simpa using h2)
    refine ⟨r, h1, ?_⟩
    show V r _
    simpa using h2
  · have hp : (0 : Int) < (d.natAbs : Int) := by omega
    rw [he] at h
    generalize hN : (d.natAbs : Int) = N at *
    have hn : N.natAbs ≤ 2 ^ 53 := by omega
    have hq : (0 : Rat) < (N : Rat) := by
      have : ((0 : Int) : Rat) < (N : Rat) := Rat.intCast_lt_intCast.2 hp
      simpa using this
    have hV : V x ((N : Rat) * (N : Rat)) := by have h2 : V x ((N * N : Int) : Rat) := h; rwa [Rat.intCast_mul] at h2
    obtain ⟨r, h1, h2⟩ := sqrt_V hV (Rat.mul_pos hq hq)
    exact ⟨r, h1, h2.exact (Rat.le_of_lt hq) (rep_int N hn) (int_small N hn).1⟩
/-- a number within a bound -/
def Bd (z : Nat) (B : Int) : Prop := ∃ q, V z q ∧ -(B : Rat) ≤ q ∧ q ≤ (B : Rat)
theorem Bd.of_I {z : Nat} {n B : Int} (h : IsI z n) (h1 : -B ≤ n) (h2 : n ≤ B) : Bd z B := by
  refine ⟨_, h, ?_, Rat.intCast_le_intCast.2 h2⟩
  have : ((-B : Int) : Rat) ≤ (n : Rat) := Rat.intCast_le_intCast.2 h1
  simpa using this
theorem Bd.mono {z : Nat} {A B : Int} (h : Bd z A) (h1 : A ≤ B) : Bd z B := by
  obtain ⟨q, hq, a, b⟩ := h
  have : (A : Rat) ≤ (B : Rat) := Rat.intCast_le_intCast.2 h1
  exact ⟨q, hq, by grind, by grind⟩
theorem p2_big : (9007199254740992 : Rat) ≤ p2 1023 := by
  have h1 : p2 53 ≤ p2 1023 := p2_mono (by decide)
  have h2 : p2 53 = 9007199254740992 := by
    have := p2_nat 53
    rw [show ((53 : Nat) : Int) = 53 from rfl] at this
    rw [this]; norm_cast
  grind
theorem p2_tiny : p2 (-1074) ≤ 1 := by
  have := p2_mono (show (-1074 : Int) ≤ 0 by decide)
  rwa [p2_zero] at this
/-- rounding within a bound moves by one at most -/
theorem RN.bd {z : Nat} {q : Rat} {B : Int} (h : RN z q) (h1 : -(B : Rat) ≤ q) (h2 : q ≤ (B : Rat)) (hB : B ≤ 1125899906842624) : Bd z (B + 1) := by
  have hb : (B : Rat) ≤ ((1125899906842624 : Int) : Rat) := Rat.intCast_le_intCast.2 hB
  have e0 : ((1125899906842624 : Int) : Rat) = 1125899906842624 := rfl
  rw [e0] at hb
  have hp := p2_big
  have ht := p2_tiny
  obtain ⟨r, hr, u, u0, u1, u2, hu⟩ := h.near (by grind) (by grind)
  have e52 : ((2 ^ 52 : Nat) : Rat) = 4503599627370496 := by norm_cast
  rw [e52] at hu
  have hu1 : u ≤ 1 := by
    rcases hu with rfl | hu | hu
    · exact ht
    · grind
    · grind
  refine ⟨r, hr, ?_, ?_⟩
  · rw [Rat.intCast_add]; have : ((1 : Int) : Rat) = 1 := rfl; rw [this]; grind
  · rw [Rat.intCast_add]; have : ((1 : Int) : Rat) = 1 := rfl; rw [this]; grind
theorem add_Bd {x y : Nat} {A B : Int} (hx : Bd x A) (hy : Bd y B) (h : A + B ≤ 1125899906842624) : ∃ z, floatBits .add .f64 x y = some z ∧ Bd z (A + B + 1) := by
  obtain ⟨a, ha, a1, a2⟩ := hx
  obtain ⟨b, hb, b1, b2⟩ := hy
  obtain ⟨z, hz, hr⟩ := add_V ha hb
  refine ⟨z, hz, hr.bd ?_ ?_ h⟩
  · rw [Rat.intCast_add]; grind
  · rw [Rat.intCast_add]; grind
theorem sqrt_Bd {x : Nat} {n : Int} (h : IsI x n) (h0 : 0 ≤ n) (h44 : n ≤ 17592186044416) : ∃ r, D.sqrt x = some r ∧ Bd r 4194305 := by
  by_cases hnz : n = 0
  · subst hnz
    obtain ⟨z, hz, hv⟩ := sqrt_zero (x := x) (by have h2 : V x ((0 : Int) : Rat) := h; rwa [Rat.intCast_zero] at h2)
    exact ⟨z, hz, 0, hv, by decide, by decide⟩
  · have hn1 : (1 : Rat) ≤ (n : Rat) := by
      have : ((1 : Int) : Rat) ≤ (n : Rat) := Rat.intCast_le_intCast.2 (by omega)
      simpa using this
    have hn2 : (n : Rat) ≤ ((17592186044416 : Int) : Rat) := Rat.intCast_le_intCast.2 h44
    have e0 : ((17592186044416 : Int) : Rat) = 17592186044416 := rfl
    rw [e0] at hn2
    obtain ⟨z, hz, t0, t1, a1, a2, a3, a4, a5, a6⟩ := sqrt_V h (by grind)
    have hr : RN z t0 := a6 t0 Rat.le_refl a5 (by by_cases he : t0 * t0 = (n : Rat) <;> simp [he])
    have hle : t0 ≤ 4194304 := sq_le a1 (by grind) (by grind)
    refine ⟨z, hz, ?_⟩
    have hb := hr.bd (B := 4194304) (by have : ((4194304 : Int) : Rat) = 4194304 := rfl; rw [this]; grind) (by have : ((4194304 : Int) : Rat) = 4194304 := rfl; rw [this]; exact hle) (by decide)
    exact hb
end Fl
namespace Go.Proofs.Ytemobphkgbhhhaa
/-- a float that is a small whole number -/
def W20 (x : Nat) : Prop := Fl.IsI x (Fl.iv x) ∧ -1048576 ≤ Fl.iv x ∧ Fl.iv x ≤ 1048576
theorem w20_of {x : Nat} (h : Fl.wholeB 1048576 x = true) : W20 x := by
  obtain ⟨n, h0, h1, h2⟩ := Fl.wholeB_true h
  unfold W20; rw [h0.iv]; exact ⟨h0, h1, h2⟩
/-! how long rows are in X and Y -/
def rv (rows : List (List Nat)) (k j : Nat) : Int := Fl.iv ((rows.getD k []).getD j 0)
def dx (rows : List (List Nat)) (k j : Nat) : Int := rv rows (k + 1) j - rv rows k j
def ln (rows : List (List Nat)) : Nat → Int
  | 0 => 0
  | k + 1 => ln rows k + (((dx rows k 0).natAbs : Int) + ((dx rows k 1).natAbs : Int))
def Along (rows : List (List Nat)) (K : Nat) : Prop := ∀ k, k < K → dx rows k 0 = 0 ∨ dx rows k 1 = 0
def lenL (rows : List (List Nat)) : Int := ln rows (rows.length - 1)
def AlongL (rows : List (List Nat)) : Prop := Along rows (rows.length - 1)
def lenS : List (List (List Nat)) → Int
  | [] => 0
  | rows :: t => lenL rows + lenS t
def AlongS (segs : List (List (List Nat))) : Prop := ∀ rows ∈ segs, AlongL rows
/-- all floats of rows are small whole numbers, two in each row at least -/
def WRow (s : Nat) (rows : List (List Nat)) : Prop := ∀ r ∈ rows, r.length = s ∧ ∀ x ∈ r, W20 x
theorem WRow.at {s : Nat} {rows : List (List Nat)} (h : WRow s rows) {k j : Nat} (hk : k < rows.length) (hj : j < s) : W20 ((rows.getD k []).getD j 0) := by
  have h1 : rows.getD k [] = rows[k] := by simp [List.getD_eq_getElem?_getD, hk]
  rw [h1]
  obtain ⟨h2, h3⟩ := h rows[k] (List.getElem_mem hk)
  have h4 : rows[k].getD j 0 = rows[k][j]'(by omega) := by simp [List.getD_eq_getElem?_getD, h2, hj]
  rw [h4]
  exact h3 _ (List.getElem_mem _)
theorem WRow.small {s : Nat} {rows : List (List Nat)} (h : WRow s rows) (k j : Nat) (hj : j < s) : -1048576 ≤ rv rows k j ∧ rv rows k j ≤ 1048576 ∨ k ≥ rows.length := by
  by_cases hk : k < rows.length
  · exact .inl (h.at hk hj).2
  · exact .inr (by omega)
theorem ln_bound {s : Nat} {rows : List (List Nat)} (h : WRow s rows) (s2 : 2 ≤ s) (k : Nat) (hk : k ≤ rows.length - 1) : 0 ≤ ln rows k ∧ ln rows k ≤ (k : Int) * 4194304 := by
  induction k with
  | zero => simp [ln]
  | succ k ih =>
    have h0 := ih (by omega)
    have a0 := (h.at (k := k) (j := 0) (by omega) (by omega)).2
    have a1 := (h.at (k := k) (j := 1) (by omega) (by omega)).2
    have b0 := (h.at (k := k + 1) (j := 0) (by omega) (by omega)).2
    have b1 := (h.at (k := k + 1) (j := 1) (by omega) (by omega)).2
    unfold ln dx rv
    omega
/-- the length that is reckoned: a number within a bound; the true one, if all runs along the axes -/
def LQ (z : Nat) (al : Prop) (n : Int) (B : Int) : Prop := (al → Fl.IsI z n) ∧ Fl.Bd z B
end Go.Proofs.Ytemobphkgbhhhaa
