import Derived.Test.YtdlhlgjgjkmdaaaFlD
namespace Fl
open Ieee Go

theorem xor_top (r : Nat) (h : r < 2 ^ 63) : r ^^^ 2 ^ 63 = 2 ^ 63 + r ∧ (2 ^ 63 + r) ^^^ 2 ^ 63 = r := by
  have h1 : r ^^^ 2 ^ 63 = 2 ^ 63 + r := by
    refine Nat.eq_of_testBit_eq fun i => ?_
    rw [Nat.testBit_xor]
    by_cases hi : i < 63
    · rw [Nat.testBit_two_pow_add_gt hi, Nat.testBit_two_pow_of_ne (by omega)]; simp
    · by_cases he : i = 63
      · subst he
        rw [Nat.testBit_two_pow_add_eq, Nat.testBit_lt_two_pow h, Nat.testBit_two_pow_self]; rfl
      · have hlt : 2 ^ 63 + r < 2 ^ i := by
          have : 2 ^ 64 ≤ 2 ^ i := Nat.pow_le_pow_right (by omega) (by omega)
          omega
        have hlt2 : r < 2 ^ i := by omega
        rw [Nat.testBit_lt_two_pow hlt, Nat.testBit_lt_two_pow hlt2, Nat.testBit_two_pow_of_ne (by omega)]; rfl
  refine ⟨h1, ?_⟩
  rw [← h1, Nat.xor_assoc, Nat.xor_self, Nat.xor_zero]

theorem negFloat_lt (x : Nat) (h : x < 2 ^ 63) : Op.negFloat .f64 x = 2 ^ 63 + x := (xor_top x h).1
theorem negFloat_ge (x : Nat) (h : x < 2 ^ 63) : Op.negFloat .f64 (2 ^ 63 + x) = x := (xor_top x h).2

theorem read_neg (x : Nat) (h : x < 2 ^ 64) : D.read (Op.negFloat .f64 x) = (D.read x).opposite := by
  have key : ∀ r, r < 2 ^ 63 → ∀ s : Bool, D.read (D.word s r) = (D.read (D.word (!s) r)).opposite := by
    intro r hr s
    have e1 : ∀ s, (D.word s r) % 2 ^ 63 = r := by intro s; cases s <;> simp [Format.word, D_sw] <;> omega
    have e2 : ∀ s, (D.word s r / 2 ^ 63 % 2 == 1) = s := by
      intro s
      cases s
      · have : D.word false r / 2 ^ 63 = 0 := by simp [Format.word]; omega
        simp [this]
      · have : D.word true r / 2 ^ 63 = 1 := by simp [Format.word, D_sw]; omega
        simp [this]
    unfold Format.read
    rw [D_sw]
    simp only [e1, e2]
    split
    · simp [Datum.opposite]
    · split
      · simp [Datum.opposite]
      · split <;> simp [Datum.opposite]
  by_cases hx : x < 2 ^ 63
  · rw [negFloat_lt x hx]
    exact key x hx true
  · obtain ⟨r, rfl⟩ : ∃ r, x = 2 ^ 63 + r := ⟨x - 2 ^ 63, by omega⟩
    rw [negFloat_ge r (by omega)]
    exact key r (by omega) false

theorem neg_V {x : Nat} {q : Rat} (h : V x q) (hx : x < 2 ^ 64) : V (Op.negFloat .f64 x) (-q) := by
  obtain ⟨s, m, p, e, rfl⟩ := h
  refine ⟨!s, m, p, ?_, opposite_val s m p⟩
  rw [read_neg x hx, e]; rfl
theorem neg_I {x : Nat} {n : Int} (h : IsI x n) (hx : x < 2 ^ 64) : IsI (Op.negFloat .f64 x) (-n) := by
  have := neg_V h hx
  rw [← Rat.intCast_neg] at this
  exact this

theorem tz_bound (q : Rat) (m : Int) (h1 : -(m : Rat) ≤ q) (h2 : q ≤ (m : Rat)) : -m ≤ tz q ∧ tz q ≤ m := by
  unfold tz
  split
  · rename_i h0
    have h3 : (0 : Int) ≤ q.floor := Rat.le_floor_iff.2 h0
    have h4 : ((q.floor : Int) : Rat) ≤ (m : Rat) := Rat.le_trans (Rat.floor_le q) h2
    have := Rat.intCast_le_intCast.1 h4
    omega
  · have h3 : (0 : Int) ≤ (-q).floor := Rat.le_floor_iff.2 (by rw [Rat.intCast_zero]; grind)
    have h4 : (((-q).floor : Int) : Rat) ≤ (m : Rat) := Rat.le_trans (Rat.floor_le _) (by grind)
    have := Rat.intCast_le_intCast.1 h4
    omega

open Classical in
/-- a whole number from -m to m -/
noncomputable def wholeB (m : Int) (x : Nat) : Bool := decide (∃ n : Int, IsI x n ∧ -m ≤ n ∧ n ≤ m)

section
open Classical
theorem wholeB_true {m : Int} {x : Nat} (h : wholeB m x = true) : ∃ n : Int, IsI x n ∧ -m ≤ n ∧ n ≤ m := by
  unfold wholeB at h; exact of_decide_eq_true h
theorem wholeB_false {m : Int} {x : Nat} (h : wholeB m x = false) : ¬ ∃ n : Int, IsI x n ∧ -m ≤ n ∧ n ≤ m := by
  unfold wholeB at h; exact of_decide_eq_false h
theorem wholeB_mk {m : Int} {x : Nat} {n : Int} (h : IsI x n) (h1 : -m ≤ n) (h2 : n ≤ m) : wholeB m x = true := by
  unfold wholeB; exact decide_eq_true ⟨n, h, h1, h2⟩

end
theorem finite_of_between {x lo hi : Nat} {a b : Rat} (hlo : V lo a) (hhi : V hi b)
    (c1 : (FloatKind.f64.format.order x lo == some .gt || FloatKind.f64.format.order x lo == some .eq) = true)
    (c2 : (FloatKind.f64.format.order x hi == some .lt || FloatKind.f64.format.order x hi == some .eq) = true) : ∃ q, V x q := by
  cases hr : D.read x with
  | number s m p => exact ⟨_, s, m, p, hr, rfl⟩
  | infinity s =>
    exfalso
    obtain ⟨s1, m1, p1, e1, _⟩ := hlo
    obtain ⟨s2, m2, p2, e2, _⟩ := hhi
    rw [f64D] at c1 c2
    unfold Format.order at c1 c2
    rw [hr, e1] at c1
    rw [hr, e2] at c2
    cases s <;> simp [Datum.order] at c1 c2
  | nan s f =>
    exfalso
    rw [f64D] at c1
    unfold Format.order at c1
    rw [hr] at c1
    simp [Datum.order] at c1

/-- the tests of 'a whole number from -most to most', as the code has them -/
theorem whole_tests {x mb : Nat} {m : Int} (hm : IsI mb m) (hb : mb < 2 ^ 64) (h53 : m ≤ 2 ^ 53) :
    ((FloatKind.f64.format.order x (Op.negFloat .f64 mb) == some .gt || FloatKind.f64.format.order x (Op.negFloat .f64 mb) == some .eq) &&
      ((FloatKind.f64.format.order x mb == some .lt || FloatKind.f64.format.order x mb == some .eq) && !(FloatKind.f64.format.order x (truncBits x) != some .eq))) = wholeB m x := by
  have hn := neg_I hm hb
  cases hw : wholeB m x with
  | true =>
    obtain ⟨n, hx, h1, h2⟩ := wholeB_true hw
    have ht := trunc_RN hx
    rw [tz_int] at ht
    have ht' := RN_int ht (by omega)
    rw [ge_V hx hn, le_V hx hm, ne_V hx ht']
    have a1 : ((-m : Int) : Rat) ≤ (n : Rat) := Rat.intCast_le_intCast.2 h1
    have a2 : (n : Rat) ≤ (m : Rat) := Rat.intCast_le_intCast.2 h2
    rw [decide_eq_true a1, decide_eq_true a2]; simp
  | false =>
    have hw := wholeB_false hw
    cases c1 : (FloatKind.f64.format.order x (Op.negFloat .f64 mb) == some .gt || FloatKind.f64.format.order x (Op.negFloat .f64 mb) == some .eq) with
    | false => simp
    | true =>
      cases c2 : (FloatKind.f64.format.order x mb == some .lt || FloatKind.f64.format.order x mb == some .eq) with
      | false => simp
      | true =>
        obtain ⟨q, hx⟩ := finite_of_between hn hm c1 c2
        rw [ge_V hx hn] at c1
        rw [le_V hx hm] at c2
        have a1 := of_decide_eq_true c1
        have a2 := of_decide_eq_true c2
        rw [Rat.intCast_neg] at a1
        have hb := tz_bound q m a1 a2
        have ht := RN_int (trunc_RN hx) (by omega)
        rw [ne_V hx ht]
        have : q ≠ ((tz q : Int) : Rat) := fun e => hw ⟨tz q, by unfold IsI; rw [← e]; exact hx, hb⟩
        simp [this]
end Fl
