import Derived.Test.YtcpdhkbmfgphpaaFlAll
import Derived.Test.YtcpdhkbmfgphpaaGrow
import GoSem.Builtin.Min
import GoSem.Builtin.Max
import Derived.Laws.BitsAllLaws
import Derived.WalkKit
import Derived.WalkLawsBesides
namespace Fl
open Ieee Go
/-! the least and the greatest of two floats; the amount of a float -/
def fmin (x y : Nat) : Nat := match FloatKind.f64.format.order x y with
  | some .lt => x
  | some .gt => y
  | _ => if (FloatKind.f64.decode x).neg then x else y
def fmax (x y : Nat) : Nat := match FloatKind.f64.format.order x y with
  | some .gt => x
  | some .lt => y
  | _ => if (FloatKind.f64.decode x).neg then y else x
theorem run_fmin {x y : Nat} {a b : Rat} (hx : V x a) (hy : V y b) (P : Program) (ts : Array TypeId) (t : TypeId) (w : World) : (Builtin.min_ ts t #[.float .f64 x, .float .f64 y]).run P w = .ok (.float .f64 (fmin x y)) w := by
  have h := order_V hx hy
  rw [← f64D] at h
  simp only [Builtin.min_, List.foldlM_cons, List.foldlM_nil, bind_pure]
  unfold Builtin.min2 fmin
  simp only [h]
  cases cmp a b <;> rfl
theorem run_fmax {x y : Nat} {a b : Rat} (hx : V x a) (hy : V y b) (P : Program) (ts : Array TypeId) (t : TypeId) (w : World) : (Builtin.max_ ts t #[.float .f64 x, .float .f64 y]).run P w = .ok (.float .f64 (fmax x y)) w := by
  have h := order_V hx hy
  rw [← f64D] at h
  simp only [Builtin.max_, List.foldlM_cons, List.foldlM_nil, bind_pure]
  unfold Builtin.max2 fmax
  simp only [h]
  cases cmp a b <;> rfl
theorem fmin_I {x y : Nat} {a b : Int} (hx : IsI x a) (hy : IsI y b) : IsI (fmin x y) (min a b) := by
  have h := order_I hx hy
  unfold fmin
  rw [h]
  rcases Int.lt_trichotomy a b with hl | rfl | hg
  · rw [Int.compare_eq_lt.2 hl, Int.min_eq_left (by omega)]; exact hx
  · rw [Int.compare_eq_eq.2 rfl, Int.min_self]; simp only; split <;> assumption
  · rw [Int.compare_eq_gt.2 hg, Int.min_eq_right (by omega)]; exact hy
theorem fmax_I {x y : Nat} {a b : Int} (hx : IsI x a) (hy : IsI y b) : IsI (fmax x y) (max a b) := by
  have h := order_I hx hy
  unfold fmax
  rw [h]
  rcases Int.lt_trichotomy a b with hl | rfl | hg
  · rw [Int.compare_eq_lt.2 hl, Int.max_eq_right (by omega)]; exact hy
  · rw [Int.compare_eq_eq.2 rfl, Int.max_self]; simp only; split <;> assumption
  · rw [Int.compare_eq_gt.2 hg, Int.max_eq_left (by omega)]; exact hx
def absB (x : Nat) : Nat := x % 9223372036854775808
def mag : Datum → Datum
  | .number _ m p => .number false m p
  | .infinity _ => .infinity false
  | .nan _ t => .nan false t
theorem read_abs (x : Nat) : D.read (absB x) = mag (D.read x) := by
  unfold absB Format.read
  rw [D_sw]
  have e1 : x % 9223372036854775808 % 2 ^ 63 = x % 2 ^ 63 := by omega
  have e2 : (x % 9223372036854775808 / 2 ^ 63 % 2 == 1) = false := by
    have : x % 9223372036854775808 / 2 ^ 63 = 0 := by omega
    simp [this]
  simp only [e1, e2]
  split
  · simp [mag]
  · split
    · simp [mag]
    · split <;> simp [mag]
theorem V_abs {x : Nat} {q : Rat} (h : V x q) : ∃ a, V (absB x) a ∧ (a = q ∧ 0 ≤ q ∨ a = -q ∧ q ≤ 0) := by
  obtain ⟨s, m, p, e, hd⟩ := h
  refine ⟨(m : Rat) * p2 p, ⟨false, m, p, by rw [read_abs, e]; rfl, by rw [dv_sign]; simp⟩, ?_⟩
  rw [dv_sign] at hd
  have hm : 0 ≤ (m : Rat) * p2 p := Rat.mul_nonneg (by exact_mod_cast Nat.zero_le m) (Rat.le_of_lt (p2_pos p))
  cases s with
  | false =>
    simp only [Bool.false_eq_true, if_false] at hd
    exact .inl ⟨hd, by rw [← hd]; exact hm⟩
  | true =>
    simp only [if_true] at hd
    exact .inr ⟨by rw [← hd]; grind, by rw [← hd]; grind⟩
theorem abs_I {x : Nat} {n : Int} (h : IsI x n) : IsI (absB x) n.natAbs := by
  obtain ⟨a, ha, h | h⟩ := V_abs h
  · have h0 : (0 : Int) ≤ n := by have := h.2; exact_mod_cast this
    rw [h.1] at ha
    unfold IsI
    rw [show ((n.natAbs : Int) : Rat) = (n : Rat) by congr 1; omega]; exact ha
  · have h0 : n ≤ (0 : Int) := by have := h.2; exact_mod_cast this
    rw [h.1, ← Rat.intCast_neg] at ha
    unfold IsI
    rw [show ((n.natAbs : Int) : Rat) = ((-n : Int) : Rat) by congr 1; omega]; exact ha
theorem bits_abs (x : Nat) : (Go.bits .andNot .u64 (x : Int) 9223372036854775808).toNat = absB x := by
  have h1 : BitVec.ofInt 64 (x : Int) = BitVec.ofInt 64 ((x % 18446744073709551616 : Nat) : Int) := by
    apply BitVec.eq_of_toNat_eq
    simp [BitVec.toNat_ofInt]; omega
  have h2 : Go.bits .andNot .u64 (x : Int) 9223372036854775808 = Go.bits .andNot .u64 ((x % 18446744073709551616 : Nat) : Int) ((9223372036854775808 : Nat) : Int) := by
    show IntKind.u64.wrap ((BitVec.ofInt 64 (x : Int) &&& ~~~BitVec.ofInt 64 9223372036854775808).toNat : Int) = IntKind.u64.wrap ((BitVec.ofInt 64 ((x % 18446744073709551616 : Nat) : Int) &&& ~~~BitVec.ofInt 64 ((9223372036854775808 : Nat) : Int)).toNat : Int)
    rw [h1]; rfl
  rw [h2, u64_andNot_nat _ _ (by omega) (by omega), Int.toNat_natCast]
  have e : (18446744073709551615 - 9223372036854775808 : Nat) = 2 ^ 63 - 1 := by decide
  rw [e, Nat.and_two_pow_sub_one_eq_mod]
  unfold absB; omega
end Fl
