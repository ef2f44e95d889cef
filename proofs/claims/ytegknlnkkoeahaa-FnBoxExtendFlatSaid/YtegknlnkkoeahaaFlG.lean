import Derived.Test.YtegknlnkkoeahaaFlF
namespace Fl
open Ieee Go

theorem rootFrom_spec (n : Nat) : ∀ (todo root : Nat), root * root ≤ n → n < (root + 2 ^ todo) * (root + 2 ^ todo) →
    Datum.rootFrom n todo root * Datum.rootFrom n todo root ≤ n ∧ n < (Datum.rootFrom n todo root + 1) * (Datum.rootFrom n todo root + 1)
  | 0, root, h1, h2 => by simpa [Datum.rootFrom] using ⟨h1, h2⟩
  | todo + 1, root, h1, h2 => by
    simp only [Datum.rootFrom, Nat.shiftLeft_eq, Nat.one_mul]
    split
    · rename_i h
      refine rootFrom_spec n todo _ h ?_
      have : root + 2 ^ todo + 2 ^ todo = root + 2 ^ (todo + 1) := by rw [Nat.pow_succ]; omega
      rw [this]; exact h2
    · rename_i h
      exact rootFrom_spec n todo root h1 (by omega)

/-- 'z' is the square root of 'q', rounded: the root lies from t0 to t1, and whatever lies there rounds so -/
def RS (z : Nat) (q : Rat) : Prop := ∃ t0 t1 : Rat, 0 ≤ t0 ∧ t0 * t0 ≤ q ∧ q < t1 * t1 ∧ (t1 - t0) * ((2 ^ 53 : Nat) : Rat) ≤ t0 ∧ t0 < t1 ∧ ∀ t, t0 ≤ t → t < t1 → (t * t = q ∨ t0 * t0 ≠ q) → RN z t

theorem sqrt_zero {x : Nat} (h : V x 0) : ∃ z, D.sqrt x = some z ∧ V z 0 := by
  obtain ⟨s, m, i, e, h0⟩ := h
  have hm : m = 0 := by
    by_cases hm : m = 0
    · exact hm
    · exfalso
      have : (0 : Rat) < (m : Rat) * p2 i := Rat.mul_pos (Rat.natCast_pos.2 (by omega)) (p2_pos i)
      rw [dv_sign] at h0
      cases s <;> simp at h0 <;> grind
  subst hm
  unfold Format.sqrt
  rw [e]
  refine ⟨_, by simp only [Datum.root, if_pos]; rfl, ?_⟩
  have : D.write (.number s 0 i) = D.word s 0 := by simp [Format.write, Format.nearest]
  rw [this]; exact V_zero s

theorem sqrt_V {x : Nat} {a : Rat} (hx : V x a) (ha : 0 < a) : ∃ z, D.sqrt x = some z ∧ RS z a := by
  obtain ⟨s, m, i, e, rfl⟩ := hx
  have hm : m ≠ 0 := by rintro rfl; cases s <;> simp [dv] at ha
  have hs : s = false := by
    cases s
    · rfl
    · exfalso
      have : (0 : Rat) ≤ (m : Rat) * p2 i := Rat.mul_nonneg Rat.natCast_nonneg (Rat.le_of_lt (p2_pos i))
      rw [dv_sign] at ha; simp at ha; grind
  subst hs
  unfold Format.sqrt
  rw [e]
  simp only [Datum.root, if_neg hm, Bool.false_eq_true, if_false, D_frac, Option.map_some, Format.write]
  generalize hmore : 2 * (52 + 2) - m.log2 + ((i - (2 * (52 + 2) - m.log2 : Nat)) % 2).toNat = more
  refine ⟨_, rfl, ?_⟩
  have heven : (i - (more : Int)) % 2 = 0 := by omega
  have hmore2 : 108 ≤ m.log2 + more := by omega
  obtain ⟨h, hh⟩ : ∃ h : Int, i - more = 2 * h := ⟨(i - more) / 2, by omega⟩
  have hpl : (i - (more : Int)) / 2 - 1 = h - 1 := by omega
  rw [hpl]
  generalize hn : m <<< more = n
  have hn' : n = m * 2 ^ more := by rw [← hn, Nat.shiftLeft_eq]
  have l1 : 2 ^ m.log2 ≤ m := Nat.log2_self_le hm
  have hnbig : 2 ^ 108 ≤ n := by
    rw [hn']
    have h1 : 2 ^ m.log2 * 2 ^ more ≤ m * 2 ^ more := Nat.mul_le_mul_right _ l1
    rw [← Nat.pow_add] at h1
    have h2 : 2 ^ 108 ≤ 2 ^ (m.log2 + more) := Nat.pow_le_pow_right (by omega) hmore2
    omega
  have hr := rootFrom_spec n (n.log2 / 2 + 1) 0 (by omega) (by
    have h1 := Nat.lt_log2_self (n := n)
    rw [Nat.zero_add]
    exact Nat.lt_of_lt_of_le h1 (by rw [← Nat.pow_add]; exact Nat.pow_le_pow_right (by omega) (by omega)))
  generalize Datum.rootFrom n (n.log2 / 2 + 1) 0 = R at *
  obtain ⟨r1, r2⟩ := hr
  have hR : 2 ^ 54 ≤ R := by
    by_cases hc : 2 ^ 54 ≤ R
    · exact hc
    · exfalso
      have : (R + 1) * (R + 1) ≤ 2 ^ 54 * 2 ^ 54 := Nat.mul_le_mul (by omega) (by omega)
      have : 2 ^ 54 * 2 ^ 54 = 2 ^ 108 := by decide
      omega
  have hw := p2_pos h
  have hw1 := p2_pos (h - 1)
  have e1 : p2 h = 2 * p2 (h - 1) := by rw [← p2_one, ← p2_add]; congr 1; omega
  -- the value is n units of 2 ^ (2 h)
  have hval : dv (.number false m i) = (n : Rat) * (p2 h * p2 h) := by
    rw [dv_sign, hn']
    simp only [Bool.false_eq_true, if_false]
    rw [Rat.natCast_mul, ← p2_nat, ← p2_add, Rat.mul_assoc, ← p2_add]
    congr 2; omega
  rw [hval]
  have hsq : (0 : Rat) < p2 h * p2 h := Rat.mul_pos hw hw
  have c1 : (R : Rat) * (R : Rat) ≤ (n : Rat) := by rw [← Rat.natCast_mul]; exact natR_le r1
  have c2 : (n : Rat) < ((R : Rat) + 1) * ((R : Rat) + 1) := by
    have := Rat.natCast_lt_natCast.2 r2
    rw [Rat.natCast_mul, Rat.natCast_add] at this; exact this
  have two : ((2 : Nat) : Rat) = 2 := rfl
  refine ⟨(R : Rat) * p2 h, ((R : Rat) + 1) * p2 h, Rat.mul_nonneg Rat.natCast_nonneg (Rat.le_of_lt hw), ?_, ?_, ?_, ?_, ?_⟩
  · have := Rat.mul_le_mul_of_nonneg_right c1 (Rat.le_of_lt hsq); grind
  · have := Rat.mul_lt_mul_of_pos_right c2 hsq; grind
  · have h1 : ((2 ^ 53 : Nat) : Rat) ≤ (R : Rat) := natR_le (by omega)
    have := Rat.mul_le_mul_of_nonneg_right h1 (Rat.le_of_lt hw); grind
  · have : (0 : Rat) < p2 h := hw
    grind
  · intro t ht1 ht2 hor
    have ht0 : 0 < t := by
      have : (0 : Rat) < (R : Rat) * p2 h := Rat.mul_pos (Rat.natCast_pos.2 (by omega)) hw
      grind
    by_cases hx : R * R = n
    · have hxr : (n : Rat) = (R : Rat) * (R : Rat) := by rw [← hx, Rat.natCast_mul]
      have ht : t = (R : Rat) * p2 h := by
        rcases hor with h1 | h1
        · -- t * t = (R p)^2, t ≥ R p
          by_cases hlt : (R : Rat) * p2 h < t
          · exfalso
            have hp : (0 : Rat) ≤ (R : Rat) * p2 h := Rat.mul_nonneg Rat.natCast_nonneg (Rat.le_of_lt hw)
            have h2 : ((R : Rat) * p2 h) * ((R : Rat) * p2 h) ≤ ((R : Rat) * p2 h) * t := Rat.mul_le_mul_of_nonneg_left ht1 hp
            have h3 : ((R : Rat) * p2 h) * t < t * t := Rat.mul_lt_mul_of_pos_right hlt ht0
            rw [hxr] at h1
            grind
          · grind
        · exfalso; apply h1; rw [hxr]; grind
      have hb : (R * R != n) = false := by simp [hx]
      rw [hb, ht]
      have := write_RN false (2 * R + false.toNat) (h - 1)
      have e3 : dv (.number false (2 * R + false.toNat) (h - 1)) = (R : Rat) * p2 h := by
        rw [dv_sign, e1]; simp only [Bool.false_eq_true, if_false, Bool.toNat_false, Nat.add_zero]
        rw [Rat.natCast_mul, two]; grind
      rw [e3] at this; exact this
    · have hb : (R * R != n) = true := by simp [hx]
      rw [hb]
      simp only [Bool.toNat_true]
      obtain ⟨kept, k, hk, e2⟩ := nearest_rnd false (2 * R + 1) (h - 1) (by omega)
      refine ⟨false, Or.inr ⟨kept, k, ?_, e2⟩⟩
      simp only [Bool.false_eq_true, if_false]
      refine hk.sticky (by omega) ?_ ?_
      · rw [Rat.natCast_mul, two]; rw [e1] at ht1; grind
      · rw [Rat.natCast_add, Rat.natCast_mul, two]; rw [e1] at ht2; grind

theorem sq_le {a b : Rat} (_ : 0 ≤ a) (hb : 0 ≤ b) (h : a * a ≤ b * b) : a ≤ b := by
  by_cases hc : a ≤ b
  · exact hc
  · exfalso
    have h1 : b < a := Rat.not_le.1 hc
    have h2 : b * b ≤ b * a := Rat.mul_le_mul_of_nonneg_left (Rat.le_of_lt h1) hb
    have h3 : b * a < a * a := Rat.mul_lt_mul_of_pos_right h1 (by grind)
    grind
theorem sq_lt {a b : Rat} (hb : 0 ≤ b) (h : a * a < b * b) : a < b := by
  by_cases hc : a < b
  · exact hc
  · exfalso
    have h1 : b ≤ a := Rat.not_lt.1 hc
    have h2 : b * b ≤ b * a := Rat.mul_le_mul_of_nonneg_left h1 hb
    have h3 : b * a ≤ a * a := Rat.mul_le_mul_of_nonneg_right h1 (by grind)
    grind

/-- the root of a square of a number that the format has is that number -/
theorem RS.exact {z : Nat} {s : Rat} (h : RS z (s * s)) (hs : 0 ≤ s) (hr : Rep s) (h1 : s ≤ p2 1023) : V z s := by
  obtain ⟨t0, t1, a1, a2, a3, _, a5, a6⟩ := h
  have b1 : t0 ≤ s := sq_le a1 hs a2
  have b2 : s < t1 := sq_lt (by grind) a3
  exact (a6 s b1 b2 (Or.inl rfl)).exact hr h1 (by have := p2_pos 1023; grind)
end Fl
