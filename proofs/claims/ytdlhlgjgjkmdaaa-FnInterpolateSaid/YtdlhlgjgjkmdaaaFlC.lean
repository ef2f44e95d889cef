import Derived.Test.YtdlhlgjgjkmdaaaFlB
namespace Fl
open Ieee

theorem signed_val (s : Bool) (m up : Nat) : ((signed s m up : Int) : Rat) = (if s then -(m : Rat) else (m : Rat)) * p2 up := by
  unfold signed
  cases s <;> simp [Nat.shiftLeft_eq, p2_nat, Rat.intCast_neg, Rat.intCast_natCast] <;> grind

theorem add_base (s : Bool) (m : Nat) (i base : Int) (h : base ≤ i) :
    ((signed s m (i - base).toNat : Int) : Rat) * p2 base = dv (.number s m i) := by
  rw [signed_val, Rat.mul_assoc, ← p2_add]
  have : ((i - base).toNat : Int) + base = i := by omega
  rw [this]; rfl

theorem natAbs_val (t : Int) : (if decide (t < 0) then -(t.natAbs : Rat) else (t.natAbs : Rat)) = (t : Rat) := by
  by_cases h : t < 0
  · have : (t : Rat) = -((t.natAbs : Nat) : Rat) := by
      rw [← Rat.intCast_natCast, ← Rat.intCast_neg]; congr 1; omega
    simp [h, this]
  · have : (t : Rat) = ((t.natAbs : Nat) : Rat) := by
      rw [← Rat.intCast_natCast]; congr 1; omega
    simp [h, this]

theorem sum_val (s : Bool) (m : Nat) (i : Int) (t : Bool) (n : Nat) (j : Int) :
    ∃ s' m' p', (Datum.number s m i).sum (.number t n j) = some (.number s' m' p') ∧ dv (.number s' m' p') = dv (.number s m i) + dv (.number t n j) := by
  simp only [Datum.sum]
  refine ⟨_, _, _, rfl, ?_⟩
  rw [← add_base s m i (min i j) (by omega), ← add_base t n j (min i j) (by omega), ← Rat.add_mul, ← Rat.intCast_add]
  generalize signed s m (i - min i j).toNat + signed t n (j - min i j).toNat = total
  by_cases h : total = 0
  · subst h; simp [dv]
  · simp only [if_neg h, dv]
    rw [natAbs_val]

theorem opposite_val (s : Bool) (m : Nat) (i : Int) : dv (Datum.number (!s) m i) = -dv (.number s m i) := by
  cases s <;> simp [dv] <;> grind

theorem add_V {x y : Nat} {a b : Rat} (hx : V x a) (hy : V y b) : ∃ z, D.add x y = some z ∧ RN z (a + b) := by
  obtain ⟨s, m, i, e, rfl⟩ := hx
  obtain ⟨t, n, j, e', rfl⟩ := hy
  unfold Format.add
  rw [e, e']
  obtain ⟨s', m', p', h, hv⟩ := sum_val s m i t n j
  rw [h, ← hv]
  exact ⟨_, rfl, write_RN ..⟩

theorem sub_V {x y : Nat} {a b : Rat} (hx : V x a) (hy : V y b) : ∃ z, D.sub x y = some z ∧ RN z (a - b) := by
  obtain ⟨s, m, i, e, rfl⟩ := hx
  obtain ⟨t, n, j, e', rfl⟩ := hy
  unfold Format.sub
  rw [e, e']
  obtain ⟨s', m', p', h, hv⟩ := sum_val s m i (!t) n j
  rw [opposite_val] at hv
  simp only [Datum.opposite]
  rw [h, Rat.sub_eq_add_neg, ← hv]
  exact ⟨_, rfl, write_RN ..⟩

theorem mul_V {x y : Nat} {a b : Rat} (hx : V x a) (hy : V y b) : ∃ z, D.mul x y = some z ∧ RN z (a * b) := by
  obtain ⟨s, m, i, e, rfl⟩ := hx
  obtain ⟨t, n, j, e', rfl⟩ := hy
  unfold Format.mul
  rw [e, e']
  refine ⟨_, rfl, ?_⟩
  have : dv (.number s m i) * dv (.number t n j) = dv (.number (s ^^ t) (m * n) (i + j)) := by
    cases s <;> cases t <;> simp [dv, p2_add, Rat.natCast_mul] <;> grind
  rw [this]
  exact write_RN ..

theorem compare_rat (a b : Int) (u : Rat) (hu : 0 < u) :
    (compare a b = .lt ↔ (a : Rat) * u < (b : Rat) * u) ∧ (compare a b = .eq ↔ (a : Rat) * u = (b : Rat) * u) ∧ (compare a b = .gt ↔ (b : Rat) * u < (a : Rat) * u) := by
  refine ⟨?_, ?_, ?_⟩
  · rw [Rat.mul_lt_mul_right hu, Rat.intCast_lt_intCast, Int.compare_eq_lt]
  · rw [Int.compare_eq_eq]
    constructor
    · rintro rfl; rfl
    · intro h
      have h1 : (a : Rat) ≤ b := Rat.le_of_mul_le_mul_right (by rw [h]; exact Rat.le_refl) hu
      have h2 : (b : Rat) ≤ a := Rat.le_of_mul_le_mul_right (by rw [h]; exact Rat.le_refl) hu
      exact Int.le_antisymm (Rat.intCast_le_intCast.1 h1) (Rat.intCast_le_intCast.1 h2)
  · rw [Rat.mul_lt_mul_right hu, Rat.intCast_lt_intCast, Int.compare_eq_gt]

def cmp (a b : Rat) : Ordering := if a < b then .lt else if a = b then .eq else .gt

theorem order_V {x y : Nat} {a b : Rat} (hx : V x a) (hy : V y b) : D.order x y = some (cmp a b) := by
  obtain ⟨s, m, i, e, rfl⟩ := hx
  obtain ⟨t, n, j, e', rfl⟩ := hy
  unfold Format.order
  rw [e, e']
  simp only [Datum.order]
  congr 1
  rw [← add_base s m i (min i j) (by omega), ← add_base t n j (min i j) (by omega)]
  generalize signed s m (i - min i j).toNat = A
  generalize signed t n (j - min i j).toNat = B
  obtain ⟨h1, h2, h3⟩ := compare_rat A B (p2 (min i j)) (p2_pos _)
  unfold cmp
  cases hc : compare A B
  · rw [if_pos (h1.1 hc)]
  · have := h2.1 hc
    rw [if_neg (by rw [this]; exact Rat.lt_irrefl), if_pos this]
  · have := h3.1 hc
    rw [if_neg (by grind), if_neg (by grind)]

end Fl
