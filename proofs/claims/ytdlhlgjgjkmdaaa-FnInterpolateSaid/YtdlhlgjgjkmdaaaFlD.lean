import Derived.Test.YtdlhlgjgjkmdaaaFlC
import Derived.Laws.FloatArith
namespace Fl
open Ieee Go

theorem f64D : FloatKind.f64.format = D := rfl

/-! whole numbers -/
def IsI (x : Nat) (n : Int) : Prop := V x (n : Rat)

theorem rep_int (n : Int) (h : n.natAbs ≤ 2 ^ 53) : Rep (n : Rat) := by
  refine ⟨decide (n < 0), n.natAbs, 0, h, by decide, ?_⟩
  rw [natAbs_val, p2_zero]; simp

theorem int_small (n : Int) (h : n.natAbs ≤ 2 ^ 53) : (n : Rat) ≤ p2 1023 ∧ -(n : Rat) ≤ p2 1023 := by
  have h1 : p2 ((53 : Nat) : Int) ≤ p2 1023 := p2_mono (by decide)
  rw [p2_nat] at h1
  have h2 : (n : Rat) ≤ ((2 ^ 53 : Nat) : Rat) := by
    rw [← Rat.intCast_natCast]; exact Rat.intCast_le_intCast.2 (by omega)
  have h3 : -(n : Rat) ≤ ((2 ^ 53 : Nat) : Rat) := by
    rw [← Rat.intCast_neg, ← Rat.intCast_natCast]; exact Rat.intCast_le_intCast.2 (by omega)
  exact ⟨Rat.le_trans h2 h1, Rat.le_trans h3 h1⟩

theorem RN_int {z : Nat} {n : Int} (h : RN z (n : Rat)) (hn : n.natAbs ≤ 2 ^ 53) : IsI z n :=
  h.exact (rep_int n hn) (int_small n hn).1 (int_small n hn).2

theorem add_I {x y : Nat} {a b : Int} (hx : IsI x a) (hy : IsI y b) (h : (a + b).natAbs ≤ 2 ^ 53) : ∃ z, floatBits .add .f64 x y = some z ∧ IsI z (a + b) := by
  obtain ⟨z, e, hz⟩ := add_V hx hy
  rw [← Rat.intCast_add] at hz
  exact ⟨z, e, RN_int hz h⟩
theorem sub_I {x y : Nat} {a b : Int} (hx : IsI x a) (hy : IsI y b) (h : (a - b).natAbs ≤ 2 ^ 53) : ∃ z, floatBits .sub .f64 x y = some z ∧ IsI z (a - b) := by
  obtain ⟨z, e, hz⟩ := sub_V hx hy
  rw [← Rat.intCast_sub] at hz
  exact ⟨z, e, RN_int hz h⟩
theorem mul_I {x y : Nat} {a b : Int} (hx : IsI x a) (hy : IsI y b) (h : (a * b).natAbs ≤ 2 ^ 53) : ∃ z, floatBits .mul .f64 x y = some z ∧ IsI z (a * b) := by
  obtain ⟨z, e, hz⟩ := mul_V hx hy
  rw [← Rat.intCast_mul] at hz
  exact ⟨z, e, RN_int hz h⟩

theorem ofInt_RN (n : Int) : RN (floatOfInt .f64 n) (n : Rat) := by
  have : RN (D.write (.number (decide (n < 0)) n.natAbs 0)) ((if decide (n < 0) then -(n.natAbs : Rat) else (n.natAbs : Rat)) * p2 0) := write_RN (decide (n < 0)) n.natAbs 0
  rw [natAbs_val, p2_zero, Rat.mul_one] at this
  exact this
theorem ofInt_I (n : Int) (h : n.natAbs ≤ 2 ^ 53) : IsI (floatOfInt .f64 n) n := RN_int (ofInt_RN n) h

theorem cmp_int (a b : Int) : cmp (a : Rat) (b : Rat) = compare a b := by
  unfold cmp
  by_cases h1 : a < b
  · rw [if_pos (Rat.intCast_lt_intCast.2 h1)]; exact (Int.compare_eq_lt.2 h1).symm
  · rw [if_neg (fun h => h1 (Rat.intCast_lt_intCast.1 h))]
    by_cases h2 : a = b
    · subst h2; rw [if_pos rfl]; exact (Int.compare_eq_eq.2 rfl).symm
    · rw [if_neg (fun h => h2 (Rat.intCast_inj.1 h))]; exact (Int.compare_eq_gt.2 (by omega)).symm
theorem order_I {x y : Nat} {a b : Int} (hx : IsI x a) (hy : IsI y b) : FloatKind.f64.format.order x y = some (compare a b) := by
  rw [← cmp_int]; exact order_V hx hy

/-! the comparisons as Bools -/
theorem cmp_lt (a b : Rat) : (some (cmp a b) == some Ordering.lt) = decide (a < b) := by
  unfold cmp; by_cases h : a < b
  · simp [h]
  · by_cases h2 : a = b <;> simp [h, h2]
theorem cmp_eq (a b : Rat) : (some (cmp a b) == some Ordering.eq) = decide (a = b) := by
  unfold cmp; by_cases h : a < b
  · have : a ≠ b := Rat.ne_of_lt h
    simp [h, this]
  · by_cases h2 : a = b
    · simp [h2, Rat.lt_irrefl]
    · simp [h, h2]
theorem cmp_gt (a b : Rat) : (some (cmp a b) == some Ordering.gt) = decide (b < a) := by
  unfold cmp; by_cases h : a < b
  · have : ¬ b < a := by grind
    simp [h, this]
  · by_cases h2 : a = b
    · simp [h2, Rat.lt_irrefl]
    · have : b < a := by grind
      simp [h, h2, this]

section
variable {x y : Nat} {a b : Rat} (hx : V x a) (hy : V y b)
include hx hy
theorem lt_V : (FloatKind.f64.format.order x y == some .lt) = decide (a < b) := by rw [f64D, order_V hx hy, cmp_lt]
theorem eq_V : (FloatKind.f64.format.order x y == some .eq) = decide (a = b) := by rw [f64D, order_V hx hy, cmp_eq]
theorem gt_V : (FloatKind.f64.format.order x y == some .gt) = decide (b < a) := by rw [f64D, order_V hx hy, cmp_gt]
theorem ne_V : (FloatKind.f64.format.order x y != some .eq) = !decide (a = b) := by rw [bne, eq_V hx hy]
theorem le_V : (FloatKind.f64.format.order x y == some .lt || FloatKind.f64.format.order x y == some .eq) = decide (a ≤ b) := by
  rw [lt_V hx hy, eq_V hx hy, ← Bool.decide_or]
  exact decide_eq_decide.2 Rat.le_iff_lt_or_eq.symm
theorem ge_V : (FloatKind.f64.format.order x y == some .gt || FloatKind.f64.format.order x y == some .eq) = decide (b ≤ a) := by
  rw [gt_V hx hy, eq_V hx hy, ← Bool.decide_or]
  refine decide_eq_decide.2 ?_
  rw [Rat.le_iff_lt_or_eq]; exact or_congr Iff.rfl ⟨Eq.symm, Eq.symm⟩
end

/-! to an integer -/
def tz (q : Rat) : Int := if 0 ≤ q then q.floor else -(-q).floor

theorem cut_zero (neg : Bool) (n drop : Nat) : Toward.zero.cut neg n drop = n / 2 ^ drop := by
  unfold Toward.cut
  simp only [Bool.toNat_false, Nat.add_zero, Nat.shiftLeft_eq, Nat.one_mul]
  by_cases hd : drop ≤ n.log2 + 2
  · rw [Nat.min_eq_left hd]
  · rw [Nat.min_eq_right (by omega)]
    have hl := Nat.lt_log2_self (n := n)
    have h4 : 2 ^ (n.log2 + 2) = 2 * 2 ^ (n.log2 + 1) := by rw [Nat.pow_succ 2 (n.log2 + 1)]; omega
    have hp : 2 ^ (n.log2 + 2) ≤ 2 ^ drop := Nat.pow_le_pow_right (by omega) (by omega)
    rw [Nat.div_eq_of_lt (by omega), Nat.div_eq_of_lt (by omega)]

theorem floor_nat_div (n g : Nat) (hg : 0 < g) (q : Rat) (h : q * (g : Rat) = (n : Rat)) : q.floor = ((n / g : Nat) : Int) := by
  have hgr : (0 : Rat) < (g : Rat) := Rat.natCast_pos.2 hg
  have h1 := Nat.div_add_mod n g
  have h2 := Nat.mod_lt n hg
  refine Int.le_antisymm ?_ ?_
  · refine Int.lt_add_one_iff.1 (Rat.floor_lt_iff.2 ?_)
    refine Rat.lt_of_mul_lt_mul_right (c := (g : Rat)) ?_ (Rat.le_of_lt hgr)
    rw [h, ← Rat.intCast_natCast g, ← Rat.intCast_mul, ← Rat.intCast_natCast n]
    refine Rat.intCast_lt_intCast.2 ?_
    have : ((n / g : Nat) : Int) + 1 = ((n / g + 1 : Nat) : Int) := rfl
    rw [this, ← Int.natCast_mul]
    refine Int.ofNat_lt.2 ?_
    rw [Nat.add_mul, Nat.mul_comm (n / g)]; omega
  · refine Rat.le_floor_iff.2 ?_
    refine Rat.le_of_mul_le_mul_right (c := (g : Rat)) ?_ hgr
    rw [h, Rat.intCast_natCast, ← Rat.natCast_mul]
    refine Rat.natCast_le_natCast.2 ?_
    rw [Nat.mul_comm]; exact Nat.mul_div_le n g

theorem integral_val (s : Bool) (m : Nat) (i : Int) :
    (signed s (Toward.zero.cut s (m <<< i.toNat) (-i).toNat) 0) = tz (dv (.number s m i)) := by
  rw [cut_zero, Nat.shiftLeft_eq]
  have key : ((m : Rat) * p2 i) * ((2 ^ (-i).toNat : Nat) : Rat) = ((m * 2 ^ i.toNat : Nat) : Rat) := by
    rw [← p2_nat, Rat.mul_assoc, ← p2_add, Rat.natCast_mul, ← p2_nat]
    congr 2; omega
  have hf := floor_nat_div (m * 2 ^ i.toNat) (2 ^ (-i).toNat) (Nat.two_pow_pos _) _ key
  have h0 : 0 ≤ (m : Rat) * p2 i := Rat.mul_nonneg Rat.natCast_nonneg (Rat.le_of_lt (p2_pos i))
  unfold tz dv signed
  cases s
  · simp only [Bool.false_eq_true, if_false, Nat.shiftLeft_zero]
    rw [if_pos h0, hf]
  · simp only [if_true, Nat.shiftLeft_zero]
    have e : -(-(m : Rat) * p2 i) = (m : Rat) * p2 i := by grind
    rw [e, hf]
    by_cases hz : 0 ≤ -(m : Rat) * p2 i
    · have hz0 : (m : Rat) * p2 i = 0 := by grind
      have hz1 : -(m : Rat) * p2 i = 0 := by grind
      rw [hz0] at hf
      have : Rat.floor 0 = 0 := rfl
      rw [this] at hf
      rw [if_pos hz, hz1, this, ← hf]; rfl
    · rw [if_neg hz]

theorem toInt_V {x : Nat} {q : Rat} (h : V x q) : (D.read x).toInt .zero = some (tz q) := by
  obtain ⟨s, m, i, e, rfl⟩ := h
  rw [e]
  simp only [Datum.toInt, Datum.integral]
  rw [integral_val]

theorem tz_int (n : Int) : tz (n : Rat) = n := by
  unfold tz
  split
  · exact Rat.floor_intCast n
  · rw [← Rat.intCast_neg, Rat.floor_intCast]; omega

theorem floatToInt_I {x : Nat} {n : Int} (h : IsI x n) (k : IntKind) (hk : k.min ≤ n ∧ n ≤ k.max) : floatToIntVal .f64 x k = some n := by
  unfold floatToIntVal
  have : (FloatKind.f64.decode x).toInt .zero = some n := by rw [show FloatKind.f64.decode x = D.read x from rfl, toInt_V h, tz_int]
  rw [this]; simp only []; rw [if_pos hk]

/-- math.Trunc -/
def truncBits (x : Nat) : Nat := FloatKind.f64.encode ((FloatKind.f64.decode x).integral .zero)
theorem trunc_RN {x : Nat} {q : Rat} (h : V x q) : RN (truncBits x) ((tz q : Int) : Rat) := by
  obtain ⟨s, m, i, e, rfl⟩ := h
  unfold truncBits
  rw [show FloatKind.f64.decode x = D.read x from rfl, e]
  simp only [Datum.integral]
  rw [← integral_val, signed_val]
  have := write_RN s (Toward.zero.cut s (m <<< i.toNat) (-i).toNat) 0
  exact this
end Fl
