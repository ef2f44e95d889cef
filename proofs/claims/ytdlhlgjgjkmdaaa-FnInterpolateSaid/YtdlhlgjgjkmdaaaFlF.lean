import Derived.Test.YtdlhlgjgjkmdaaaFlE
namespace Fl
open Ieee Go

theorem Rnd.sticky {q : Nat} {e : Int} {kept k : Nat} {t : Rat} (h : Rnd (((2 * q + 1 : Nat) : Rat) * p2 e) kept k) (hq : 2 ^ 53 ≤ q)
    (h1 : ((2 * q : Nat) : Rat) * p2 e ≤ t) (h2 : t < ((2 * q + 2 : Nat) : Rat) * p2 e) : Rnd t kept k := by
  have hw := p2_pos e
  -- the unit is at least four of the last place's
  have hge : e + 2 ≤ -1074 + (k : Int) := by
    by_cases hc : e + 2 ≤ -1074 + (k : Int)
    · exact hc
    · exfalso
      have h3 : p2 (-1074 + (k : Int)) ≤ p2 (e + 1) := p2_mono (by omega)
      have h4 := h.top
      have h5 : ((2 ^ 53 : Nat) : Rat) * p2 (-1074 + k) ≤ ((2 ^ 53 : Nat) : Rat) * p2 (e + 1) := Rat.mul_le_mul_of_nonneg_left h3 Rat.natCast_nonneg
      have h6 : ((2 ^ 53 : Nat) : Rat) * p2 (e + 1) = ((2 ^ 54 : Nat) : Rat) * p2 e := by
        rw [← p2_nat, ← p2_nat, ← p2_add, ← p2_add]; congr 1; omega
      have h7 : ((2 ^ 54 : Nat) : Rat) ≤ ((2 * q + 1 : Nat) : Rat) := natR_le (by omega)
      have h8 := Rat.mul_le_mul_of_nonneg_right h7 (Rat.le_of_lt hw)
      grind
  obtain ⟨c, hc⟩ : ∃ c : Nat, p2 (-1074 + (k : Int)) = ((4 * c : Nat) : Rat) * p2 e := by
    refine ⟨2 ^ (-1074 + (k : Int) - (e + 2)).toNat, ?_⟩
    rw [show (4 : Nat) = 2 ^ 2 from rfl, ← Nat.pow_add, ← p2_nat, ← p2_add]; congr 1; omega
  have cast_le : ∀ a b : Nat, (a : Rat) * p2 e ≤ (b : Rat) * p2 e → a ≤ b := fun a b hab => Rat.natCast_le_natCast.1 (Rat.le_of_mul_le_mul_right hab hw)
  have le_cast : ∀ a b : Nat, a ≤ b → (a : Rat) * p2 e ≤ (b : Rat) * p2 e := fun a b hab => Rat.mul_le_mul_of_nonneg_right (natR_le hab) (Rat.le_of_lt hw)
  obtain ⟨hpos, hlo, hhi, hlow, htop, hle, hge'⟩ := h
  rw [hc] at hlo hhi hlow htop
  refine ⟨?_, ?_, ?_, ?_, ?_, hle, hge'⟩
  · have : (0 : Rat) < ((2 * q : Nat) : Rat) * p2 e := Rat.mul_pos (Rat.natCast_pos.2 (by omega)) hw
    grind
  · rw [hc]
    have a1 := cast_le (kept * (4 * c) * 2) ((2 * q + 1) * 2 + 4 * c) (by simp only [Rat.natCast_mul, Rat.natCast_add] at *; grind)
    have a2 : kept * (4 * c) * 2 ≤ 2 * q * 2 + 4 * c := by
      have : kept * (4 * c) = 4 * (kept * c) := Nat.mul_left_comm ..
      omega
    have a3 := le_cast _ _ a2
    simp only [Rat.natCast_mul, Rat.natCast_add] at *
    grind
  · rw [hc]
    have a1 := cast_le ((2 * q + 1) * 2) (kept * (4 * c) * 2 + 4 * c) (by simp only [Rat.natCast_mul, Rat.natCast_add] at *; grind)
    have a2 : (2 * q + 2) * 2 ≤ kept * (4 * c) * 2 + 4 * c := by
      have : kept * (4 * c) = 4 * (kept * c) := Nat.mul_left_comm ..
      omega
    have a3 := le_cast _ _ a2
    simp only [Rat.natCast_mul, Rat.natCast_add] at *
    grind
  · rcases hlow with h0 | h0
    · exact Or.inl h0
    · right
      rw [hc]
      have a1 := cast_le (2 ^ 52 * (4 * c)) (2 * q + 1) (by simp only [Rat.natCast_mul] at *; grind)
      have a2 : 2 ^ 52 * (4 * c) ≤ 2 * q := by omega
      have a3 := le_cast _ _ a2
      simp only [Rat.natCast_mul] at *
      grind
  · rw [hc]
    have a1 : 2 * q + 1 < 2 ^ 53 * (4 * c) := by
      refine Rat.natCast_lt_natCast.1 (Rat.lt_of_mul_lt_mul_right (c := p2 e) ?_ (Rat.le_of_lt hw))
      simp only [Rat.natCast_mul] at *
      grind
    have a2 : 2 * q + 2 ≤ 2 ^ 53 * (4 * c) := by omega
    have a3 := le_cast _ _ a2
    simp only [Rat.natCast_mul] at *
    grind

theorem dv_sign (s : Bool) (m : Nat) (i : Int) : dv (.number s m i) = (if s then -((m : Rat) * p2 i) else (m : Rat) * p2 i) := by
  cases s <;> simp [dv] <;> grind

/-- the quotient of magnitudes, rounded -/
theorem quo_mag (neg : Bool) (m n : Nat) (i j : Int) (hm : m ≠ 0) (hn : n ≠ 0) (d : Rat) (hd : d * ((n : Rat) * p2 j) = (m : Rat) * p2 i) :
    let more := 54 + n.log2 - m.log2
    let dividend := m <<< more
    ∃ kept k, Rnd d kept k ∧ D.nearest neg (2 * (dividend / n) + (dividend % n != 0).toNat) (i - j - more - 1) = D.word neg (min (k * 2 ^ 52 + kept) (2047 * 2 ^ 52)) := by
  intro more dividend
  have hnp : 0 < n := Nat.pos_of_ne_zero hn
  have hdiv : dividend = m * 2 ^ more := Nat.shiftLeft_eq ..
  have l1 : 2 ^ m.log2 ≤ m := Nat.log2_self_le hm
  have l2 : n < 2 ^ (n.log2 + 1) := Nat.lt_log2_self
  have hbig : 2 ^ 53 * n < dividend := by
    rw [hdiv]
    have h1 : 2 ^ m.log2 * 2 ^ more ≤ m * 2 ^ more := Nat.mul_le_mul_right _ l1
    rw [← Nat.pow_add] at h1
    have h2 : 2 ^ (54 + n.log2) ≤ 2 ^ (m.log2 + more) := Nat.pow_le_pow_right (by omega) (by omega)
    have h3 : 2 ^ (54 + n.log2) = 2 ^ 53 * 2 ^ (n.log2 + 1) := by rw [← Nat.pow_add]; congr 1; omega
    have h4 : 2 ^ 53 * n < 2 ^ 53 * 2 ^ (n.log2 + 1) := Nat.mul_lt_mul_of_pos_left l2 (by decide)
    omega
  have hq : 2 ^ 53 ≤ dividend / n := (Nat.le_div_iff_mul_le hnp).2 (by omega)
  have hdm := Nat.div_add_mod dividend n
  have hml := Nat.mod_lt dividend hnp
  have hw := p2_pos (i - j - more - 1)
  -- d in units of the last place
  have hnr : (0 : Rat) < (n : Rat) := Rat.natCast_pos.2 hnp
  have key : d * (n : Rat) = ((2 * dividend : Nat) : Rat) * p2 (i - j - more - 1) := by
    have e1 : p2 i = p2 (i - j) * p2 j := p2_split i j
    have e2 : p2 (i - j) = ((2 ^ more : Nat) : Rat) * 2 * p2 (i - j - more - 1) := by
      rw [← p2_nat, ← p2_one, ← p2_add, ← p2_add]; congr 1; omega
    have hj := p2_pos j
    have : (d * (n : Rat)) * p2 j = (((2 * dividend : Nat) : Rat) * p2 (i - j - more - 1)) * p2 j := by
      rw [hdiv]
      simp only [Rat.natCast_mul]
      rw [e1, e2] at hd
      grind
    exact Rat.le_antisymm (Rat.le_of_mul_le_mul_right (by rw [this]; exact Rat.le_refl) hj) (Rat.le_of_mul_le_mul_right (by rw [this]; exact Rat.le_refl) hj)
  have hdr : (dividend : Rat) = (n : Rat) * ((dividend / n : Nat) : Rat) + ((dividend % n : Nat) : Rat) := by
    rw [← Rat.natCast_mul, ← Rat.natCast_add, hdm]
  have hrr : ((dividend % n : Nat) : Rat) < (n : Rat) := Rat.natCast_lt_natCast.2 hml
  generalize hQ : dividend / n = Q at *
  generalize hR : dividend % n = r at *
  rw [Rat.natCast_mul, hdr] at key
  have two : ((2 : Nat) : Rat) = 2 := rfl
  by_cases h0 : r = 0
  · subst h0
    simp only [bne_self_eq_false, Bool.toNat_false, Nat.add_zero]
    obtain ⟨kept, k, h, e⟩ := nearest_rnd neg (2 * Q) (i - j - more - 1) (by omega)
    refine ⟨kept, k, ?_, e⟩
    have : d = ((2 * Q : Nat) : Rat) * p2 (i - j - more - 1) := by
      have z : ((0 : Nat) : Rat) = 0 := rfl
      rw [Rat.natCast_mul, two]
      rw [z, two] at key
      refine Rat.le_antisymm ?_ ?_ <;> refine Rat.le_of_mul_le_mul_right (c := (n : Rat)) ?_ hnr <;> grind
    rw [this]; exact h
  · have hb : (r != 0) = true := by simp [h0]
    have hr0 : (0 : Rat) < (r : Rat) := Rat.natCast_pos.2 (by omega)
    rw [hb]
    simp only [Bool.toNat_true]
    obtain ⟨kept, k, h, e⟩ := nearest_rnd neg (2 * Q + 1) (i - j - more - 1) (by omega)
    have hp := Rat.mul_pos hr0 hw
    have hp2 : (r : Rat) * p2 (i - j - more - 1) < (n : Rat) * p2 (i - j - more - 1) := Rat.mul_lt_mul_of_pos_right hrr hw
    refine ⟨kept, k, h.sticky hq ?_ ?_, e⟩
    · refine Rat.le_of_mul_le_mul_right (c := (n : Rat)) ?_ hnr
      rw [key, Rat.natCast_mul, two]
      grind
    · refine Rat.lt_of_mul_lt_mul_right (c := (n : Rat)) ?_ (Rat.le_of_lt hnr)
      rw [key, Rat.natCast_add, Rat.natCast_mul, two]
      grind

theorem div_V {x y : Nat} {a b : Rat} (hx : V x a) (hy : V y b) (hb : b ≠ 0) : ∃ z, D.div x y = some z ∧ RN z (a / b) := by
  obtain ⟨s, m, i, e, rfl⟩ := hx
  obtain ⟨t, n, j, e', rfl⟩ := hy
  have hn : n ≠ 0 := by rintro rfl; apply hb; cases t <;> simp [dv]
  unfold Format.div
  rw [e, e']
  simp only [Datum.quotient, if_neg hn]
  refine ⟨_, rfl, ?_⟩
  have hnr : (0 : Rat) < (n : Rat) := Rat.natCast_pos.2 (Nat.pos_of_ne_zero hn)
  have hj := p2_pos j
  have hnj : (0 : Rat) < (n : Rat) * p2 j := Rat.mul_pos hnr hj
  by_cases hm : m = 0
  · subst hm
    refine ⟨s ^^ t, Or.inl ⟨?_, ?_⟩⟩
    · rw [dv_sign]; simp; rw [Rat.div_def]; cases s <;> simp
    · simp [Format.write, Format.nearest]
  · have hd : (((m : Rat) * p2 i) / ((n : Rat) * p2 j)) * ((n : Rat) * p2 j) = (m : Rat) * p2 i := Rat.div_mul_cancel (Rat.ne_of_gt hnj)
    obtain ⟨kept, k, h, e2⟩ := quo_mag (s ^^ t) m n i j hm hn _ hd
    refine ⟨s ^^ t, Or.inr ⟨kept, k, ?_, e2⟩⟩
    have : (if (s ^^ t) = true then -(dv (.number s m i) / dv (.number t n j)) else dv (.number s m i) / dv (.number t n j)) = ((m : Rat) * p2 i) / ((n : Rat) * p2 j) := by
      rw [dv_sign, dv_sign]
      simp only [Rat.div_def]
      cases s <;> cases t <;> simp <;> grind
    rw [this]; exact h
end Fl
