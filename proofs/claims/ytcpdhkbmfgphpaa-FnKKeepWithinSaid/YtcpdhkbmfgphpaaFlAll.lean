import Ieee.Arith
import Derived.Laws.FloatArith
namespace Fl
open Ieee

/-! powers of two over Rat -/
def p2 (e : Int) : Rat := (2 : Rat) ^ e

theorem p2_pos (e : Int) : 0 < p2 e := Rat.zpow_pos (by decide)
theorem p2_ne (e : Int) : p2 e ≠ 0 := Rat.ne_of_gt (p2_pos e)
theorem p2_add (a b : Int) : p2 (a + b) = p2 a * p2 b := Rat.zpow_add (by decide) a b
theorem p2_zero : p2 0 = 1 := by unfold p2; rfl
theorem p2_one : p2 1 = 2 := by unfold p2; rfl
theorem p2_nat (n : Nat) : p2 (n : Int) = ((2 ^ n : Nat) : Rat) := by
  induction n with
  | zero => simp [p2_zero]
  | succ n ih => rw [Int.natCast_succ, p2_add, ih, p2_one, Nat.pow_succ]; simp [Rat.natCast_mul]
theorem p2_toNat {e : Int} (h : 0 ≤ e) : p2 e = ((2 ^ e.toNat : Nat) : Rat) := by
  obtain ⟨n, rfl⟩ := Int.eq_ofNat_of_zero_le h; simpa using p2_nat n
theorem p2_split (a b : Int) : p2 a = p2 (a - b) * p2 b := by rw [← p2_add]; congr 1; omega
theorem p2_mono {a b : Int} (h : a ≤ b) : p2 a ≤ p2 b := by
  have e : p2 b = p2 (b - a) * p2 a := p2_split b a
  have h1 : (1 : Rat) ≤ p2 (b - a) := by
    rw [p2_toNat (by omega)]
    exact Rat.natCast_le_natCast.2 (Nat.one_le_two_pow)
  have := Rat.mul_le_mul_of_nonneg_right h1 (Rat.le_of_lt (p2_pos a))
  rw [e]; simpa using this

attribute [irreducible] p2

/-! rounding to a whole number -/
theorem cut_even (neg : Bool) (n drop : Nat) :
    2 * (Toward.even.cut neg n drop * 2 ^ drop) ≤ 2 * n + 2 ^ drop ∧ 2 * n ≤ 2 * (Toward.even.cut neg n drop * 2 ^ drop) + 2 ^ drop := by
  unfold Toward.cut
  simp only []
  by_cases hd : drop ≤ n.log2 + 2
  · rw [Nat.min_eq_left hd, Nat.shiftLeft_eq, Nat.one_mul]
    have hg : 0 < 2 ^ drop := Nat.two_pow_pos _
    generalize hG : 2 ^ drop = g at *
    have h1 := Nat.div_add_mod n g
    have h2 := Nat.mod_lt n hg
    generalize n / g = q at *
    generalize n % g = r at *
    have hc : g * q = q * g := Nat.mul_comm ..
    by_cases hm : (decide (g < 2 * r) || g == 2 * r && q % 2 == 1) = true
    · rw [hm]
      simp only [Bool.or_eq_true, decide_eq_true_eq, Bool.and_eq_true, beq_iff_eq] at hm
      simp only [Bool.toNat_true, Nat.add_mul]
      omega
    · have hm' : (decide (g < 2 * r) || g == 2 * r && q % 2 == 1) = false := by simpa using hm
      rw [hm']
      have : 2 * r ≤ g := by
        by_cases h : g < 2 * r
        · simp [h] at hm
        · omega
      simp only [Bool.toNat_false, Nat.add_zero]
      omega
  · have hd' : n.log2 + 2 < drop := by omega
    rw [Nat.min_eq_right (by omega), Nat.shiftLeft_eq, Nat.one_mul]
    have hl := Nat.lt_log2_self (n := n)
    have h4 : 2 ^ (n.log2 + 2) = 2 * 2 ^ (n.log2 + 1) := by rw [Nat.pow_succ 2 (n.log2 + 1)]; omega
    have hlt : n < 2 ^ (n.log2 + 2) := by omega
    rw [Nat.div_eq_of_lt hlt, Nat.mod_eq_of_lt hlt]
    have hm : (decide (2 ^ (n.log2 + 2) < 2 * n) || 2 ^ (n.log2 + 2) == 2 * n && 0 % 2 == 1) = false := by simp; omega
    rw [hm]
    have hp : 2 ^ (n.log2 + 2) ≤ 2 ^ drop := Nat.pow_le_pow_right (by omega) (by omega)
    simp
    omega


theorem cut_exact (neg : Bool) (k drop : Nat) : Toward.even.cut neg (k * 2 ^ drop) drop = k := by
  have h := cut_even neg (k * 2 ^ drop) drop
  have hg : 0 < 2 ^ drop := Nat.two_pow_pos _
  generalize Toward.even.cut neg (k * 2 ^ drop) drop = r at *
  generalize 2 ^ drop = g at *
  by_cases h1 : r < k
  · have h2 : (r + 1) * g ≤ k * g := Nat.mul_le_mul_right g (by omega)
    have h3 : (r + 1) * g = r * g + g := by rw [Nat.add_mul]; omega
    omega
  · by_cases h4 : k < r
    · have h2 : (k + 1) * g ≤ r * g := Nat.mul_le_mul_right g (by omega)
      have h3 : (k + 1) * g = k * g + g := by rw [Nat.add_mul]; omega
      omega
    · omega

/-! reading a word -/
abbrev D : Format := Ieee.double
theorem D_sw : D.signWeight = 2 ^ 63 := rfl
theorem D_bin : D.binade = 2 ^ 52 := rfl
theorem D_inf : D.infRung = 2047 * 2 ^ 52 := rfl
theorem D_least : D.leastPlace = -1074 := by decide
theorem D_frac : D.fractionBits = 52 := rfl
theorem D_width : D.width = 64 := rfl

/-- the value of a datum -/
def dv : Datum → Rat
  | .number s m p => (if s then -(m : Rat) else (m : Rat)) * p2 p
  | _ => 0

theorem read_word (neg : Bool) (r : Nat) (h : r < 2047 * 2 ^ 52) :
    D.read (D.word neg r) = if r < 2 ^ 52 then .number neg r (-1074) else .number neg (2 ^ 52 + r % 2 ^ 52) (-1074 + (r / 2 ^ 52 - 1 : Nat)) := by
  unfold Format.read Format.word
  rw [D_sw, D_bin, D_inf, D_least]
  have e1 : (if neg = true then 2 ^ 63 + r else r) % 2 ^ 63 = r := by cases neg <;> simp <;> omega
  have e2 : ((if neg = true then 2 ^ 63 + r else r) / 2 ^ 63 % 2 == 1) = neg := by
    cases neg
    · have : r / 2 ^ 63 = 0 := by omega
      simp [this]
    · have : (2 ^ 63 + r) / 2 ^ 63 = 1 := by omega
      simp [this]
  simp only [e1, e2]
  rw [if_pos h]

/-- the rung of 'kept' units of place '-1074 + k' -/
theorem read_rung (neg : Bool) (k kept : Nat) (h0 : kept ≤ 2 ^ 53) (h1 : 2 ^ 52 ≤ kept ∨ k = 0) (h2 : k * 2 ^ 52 + kept < 2047 * 2 ^ 52) :
    ∃ m p, D.read (D.word neg (k * 2 ^ 52 + kept)) = .number neg m p ∧ (m : Rat) * p2 p = (kept : Rat) * p2 (-1074 + k) ∧ (m = 0 ↔ kept = 0) := by
  rw [read_word neg _ h2]
  by_cases hs : kept < 2 ^ 52
  · have hk : k = 0 := by omega
    subst hk
    refine ⟨kept, -1074, ?_, by simp, Iff.rfl⟩
    rw [if_pos (by omega)]; simp
  · by_cases he : kept = 2 ^ 53
    · subst he
      refine ⟨2 ^ 52, -1074 + ((k + 1 : Nat) : Int), ?_, ?_, by simp⟩
      · rw [if_neg (by omega)]
        have e1 : (k * 2 ^ 52 + 2 ^ 53) % 2 ^ 52 = 0 := by omega
        have e2 : (k * 2 ^ 52 + 2 ^ 53) / 2 ^ 52 - 1 = k + 1 := by omega
        rw [e1, e2]
      · have : (-1074 + ((k + 1 : Nat) : Int)) = 1 + (-1074 + (k : Int)) := by omega
        rw [this, p2_add, p2_one, ← Rat.mul_assoc]
        congr 1
        rw [show (2 : Rat) = ((2 : Nat) : Rat) from rfl, ← Rat.natCast_mul]
    · refine ⟨kept, -1074 + k, ?_, rfl, Iff.rfl⟩
      rw [if_neg (by omega)]
      have e1 : 2 ^ 52 + (k * 2 ^ 52 + kept) % 2 ^ 52 = kept := by omega
      have e2 : (k * 2 ^ 52 + kept) / 2 ^ 52 - 1 = k := by omega
      rw [e1, e2]

/-- 'kept' units of the place '-1074 + k' are 'q' (above 0), rounded. -/
structure Rnd (q : Rat) (kept k : Nat) : Prop where
  pos : 0 < q
  lo : (kept : Rat) * p2 (-1074 + k) * 2 ≤ q * 2 + p2 (-1074 + k)
  hi : q * 2 ≤ (kept : Rat) * p2 (-1074 + k) * 2 + p2 (-1074 + k)
  low : k = 0 ∨ ((2 ^ 52 : Nat) : Rat) * p2 (-1074 + k) ≤ q
  top : q < ((2 ^ 53 : Nat) : Rat) * p2 (-1074 + k)
  le : kept ≤ 2 ^ 53
  ge : 2 ^ 52 ≤ kept ∨ k = 0

theorem natR_le {a b : Nat} (h : a ≤ b) : (a : Rat) ≤ (b : Rat) := Rat.natCast_le_natCast.2 h

theorem nearest_rnd (neg : Bool) (mag : Nat) (place : Int) (hm : mag ≠ 0) :
    ∃ kept k, Rnd ((mag : Rat) * p2 place) kept k ∧ D.nearest neg mag place = D.word neg (min (k * 2 ^ 52 + kept) (2047 * 2 ^ 52)) := by
  unfold Format.nearest
  rw [if_neg hm, D_least, D_frac, D_bin, D_inf]
  simp only []
  generalize hL : mag.log2 = L
  have l1 : 2 ^ L ≤ mag := by rw [← hL]; exact Nat.log2_self_le hm
  have l2 : mag < 2 ^ (L + 1) := by rw [← hL]; exact Nat.lt_log2_self
  generalize hl : max (place + (L : Int) - 52) (-1074) = last
  have hlast : -1074 ≤ last := by omega
  obtain ⟨k, hk⟩ := Int.eq_ofNat_of_zero_le (show 0 ≤ last + 1074 by omega)
  have hk' : last = -1074 + (k : Int) := by omega
  have e1 : (last - -1074).toNat = k := by omega
  rw [e1]
  generalize hn : mag <<< (place - last).toNat = n
  generalize hd : (last - place).toNat = d
  generalize hK : Toward.even.cut neg n d = kept
  have hcut := cut_even neg n d
  rw [hK] at hcut
  -- n * 2 ^ -d * 2 ^ last = q
  have hq : (mag : Rat) * p2 place * p2 d = (n : Rat) * p2 last := by
    rw [← hn, Nat.shiftLeft_eq]
    by_cases h : place ≤ last
    · have : (place - last).toNat = 0 := by omega
      rw [this, Rat.mul_assoc, ← p2_add]
      have : place + (d : Int) = last := by omega
      rw [this]; simp
    · have hd0 : d = 0 := by omega
      have : place = ((place - last).toNat : Int) + last := by omega
      rw [hd0, Rat.natCast_mul, ← p2_nat, Rat.mul_assoc, Rat.mul_assoc, ← p2_add, ← p2_add]
      congr 2
      omega
  have hdp := p2_pos (d : Int)
  have hlp := p2_pos last
  have hdn : p2 (d : Int) = ((2 ^ d : Nat) : Rat) := p2_nat d
  -- size of n
  have ntop : n < 2 ^ 53 * 2 ^ d := by
    rw [← hn, Nat.shiftLeft_eq]
    by_cases h : place ≤ last
    · have z : (place - last).toNat = 0 := by omega
      rw [z, ← Nat.pow_add]
      have : 2 ^ (L + 1) ≤ 2 ^ (53 + d) := Nat.pow_le_pow_right (by omega) (by omega)
      omega
    · have hd0 : d = 0 := by omega
      rw [hd0]
      have h1 : mag * 2 ^ (place - last).toNat < 2 ^ (L + 1) * 2 ^ (place - last).toNat := Nat.mul_lt_mul_of_pos_right l2 (Nat.two_pow_pos _)
      rw [← Nat.pow_add] at h1
      have : 2 ^ (L + 1 + (place - last).toNat) ≤ 2 ^ 53 := Nat.pow_le_pow_right (by omega) (by omega)
      omega
  have nlow : 2 ^ 52 * 2 ^ d ≤ n ∨ k = 0 := by
    by_cases hk0 : k = 0
    · exact Or.inr hk0
    left
    have hlm : last = place + L - 52 := by omega
    rw [← hn, Nat.shiftLeft_eq, ← Nat.pow_add]
    have h1 : 2 ^ L * 2 ^ (place - last).toNat ≤ mag * 2 ^ (place - last).toNat := Nat.mul_le_mul_right _ l1
    rw [← Nat.pow_add] at h1
    have : 2 ^ (52 + d) ≤ 2 ^ (L + (place - last).toNat) := Nat.pow_le_pow_right (by omega) (by omega)
    omega
  have hg : 0 < 2 ^ d := Nat.two_pow_pos _
  refine ⟨kept, k, ⟨Rat.mul_pos (Rat.natCast_pos.2 (by omega)) (p2_pos _), ?_, ?_, ?_, ?_, ?_, ?_⟩, rfl⟩
  · rw [← hk']
    have h := natR_le hcut.1
    simp only [Rat.natCast_mul, Rat.natCast_add, ← hdn] at h
    refine Rat.le_of_mul_le_mul_right (c := p2 d) ?_ hdp
    have h2 := Rat.mul_le_mul_of_nonneg_right h (Rat.le_of_lt hlp)
    have e := congrArg (· * 2) hq
    grind
  · rw [← hk']
    have h := natR_le hcut.2
    simp only [Rat.natCast_mul, Rat.natCast_add, ← hdn] at h
    refine Rat.le_of_mul_le_mul_right (c := p2 d) ?_ hdp
    have h2 := Rat.mul_le_mul_of_nonneg_right h (Rat.le_of_lt hlp)
    have e := congrArg (· * 2) hq
    grind
  · rw [← hk']
    rcases nlow with h | h
    · right
      have h := natR_le h
      rw [Rat.natCast_mul, ← hdn] at h
      refine Rat.le_of_mul_le_mul_right (c := p2 d) ?_ hdp
      have h2 := Rat.mul_le_mul_of_nonneg_right h (Rat.le_of_lt hlp)
      grind
    · exact Or.inl h
  · rw [← hk']
    have h : (n : Rat) < ((2 ^ 53 * 2 ^ d : Nat) : Rat) := Rat.natCast_lt_natCast.2 ntop
    rw [Rat.natCast_mul, ← hdn] at h
    refine Rat.lt_of_mul_lt_mul_right (c := p2 d) ?_ (Rat.le_of_lt hdp)
    have h2 := Rat.mul_lt_mul_of_pos_right h hlp
    grind
  · generalize 2 ^ d = g at *
    have : kept * g < (2 ^ 53 + 1) * g := by omega
    have := Nat.lt_of_mul_lt_mul_right this
    omega
  · rcases nlow with h | h
    · left
      generalize 2 ^ d = g at *
      have : (2 ^ 52) * g < (kept + 1) * g := by rw [Nat.add_mul]; omega
      have := Nat.lt_of_mul_lt_mul_right this
      omega
    · exact Or.inr h

/-! what a word stands for -/

/-- 'x' is a finite number, the number 'q' -/
def V (x : Nat) (q : Rat) : Prop := ∃ s m p, D.read x = .number s m p ∧ dv (.number s m p) = q

/-- 'z' is 'q' rounded -/
def RN (z : Nat) (q : Rat) : Prop :=
  ∃ neg, (q = 0 ∧ z = D.word neg 0) ∨ ∃ kept k, Rnd (if neg then -q else q) kept k ∧ z = D.word neg (min (k * 2 ^ 52 + kept) (2047 * 2 ^ 52))

theorem V_det {x : Nat} {a b : Rat} (h : V x a) (h' : V x b) : a = b := by
  obtain ⟨s, m, p, e, rfl⟩ := h
  obtain ⟨s', m', p', e', rfl⟩ := h'
  rw [e] at e'; cases e'; rfl

theorem write_RN (s : Bool) (m : Nat) (p : Int) : RN (D.write (.number s m p)) (dv (.number s m p)) := by
  refine ⟨s, ?_⟩
  by_cases hm : m = 0
  · left
    subst hm
    refine ⟨?_, ?_⟩
    · cases s <;> simp [dv]
    · simp [Format.write, Format.nearest]
  · right
    obtain ⟨kept, k, h, e⟩ := nearest_rnd s m p hm
    refine ⟨kept, k, ?_, e⟩
    have : (if s = true then -dv (.number s m p) else dv (.number s m p)) = (m : Rat) * p2 p := by
      cases s <;> simp [dv] <;> grind
    rw [this]; exact h

theorem read_zero (neg : Bool) : D.read (D.word neg 0) = .number neg 0 (-1074) := by
  rw [read_word neg 0 (by decide), if_pos (by decide)]
theorem V_zero (neg : Bool) : V (D.word neg 0) 0 := ⟨neg, 0, -1074, read_zero neg, by cases neg <;> simp [dv]⟩

theorem p2_step (k : Nat) : p2 (-1074 + ((k + 1 : Nat) : Int)) = 2 * p2 (-1074 + (k : Int)) := by
  rw [show (-1074 + ((k + 1 : Nat) : Int)) = 1 + (-1074 + (k : Int)) by omega, p2_add, p2_one]

/-- not too great: no infinity comes of it -/
theorem Rnd.small {q : Rat} {kept k : Nat} (h : Rnd q kept k) (hq : q ≤ p2 1023) : k * 2 ^ 52 + kept < 2047 * 2 ^ 52 := by
  have hk : k ≤ 2045 := by
    rcases h.low with h0 | h0
    · omega
    · by_cases hk : k ≤ 2045
      · exact hk
      · exfalso
        have h1 : p2 1024 ≤ ((2 ^ 52 : Nat) : Rat) * p2 (-1074 + k) := by
          rw [← p2_nat, ← p2_add]; exact p2_mono (by omega)
        have h2 : p2 1024 = 2 * p2 1023 := by rw [← p2_one, ← p2_add]; rfl
        have h3 := p2_pos 1023
        grind
  have h1 := h.le
  by_cases hk' : k = 2045
  · -- kept is 2 ^ 52 at most there, being at most 2 ^ 1023
    have hlo := h.lo
    subst hk'
    have e1 : p2 1023 = ((2 ^ 52 : Nat) : Rat) * p2 (-1074 + (2045 : Nat)) := by rw [← p2_nat, ← p2_add]; rfl
    have hu := p2_pos (-1074 + (2045 : Nat))
    have h3 : (kept : Rat) * p2 (-1074 + (2045 : Nat)) * 2 ≤ (((2 ^ 52 : Nat) : Rat) * 2 + 1) * p2 (-1074 + (2045 : Nat)) := by grind
    have h4 : ((kept : Rat) * 2) * p2 (-1074 + (2045 : Nat)) ≤ (((2 ^ 52 : Nat) : Rat) * 2 + 1) * p2 (-1074 + (2045 : Nat)) := by grind
    have h5 := Rat.le_of_mul_le_mul_right h4 hu
    have h6 : ((kept * 2 : Nat) : Rat) ≤ ((2 ^ 52 * 2 + 1 : Nat) : Rat) := by
      rw [Rat.natCast_mul, Rat.natCast_add, Rat.natCast_mul]; exact h5
    have := Rat.natCast_le_natCast.1 h6
    omega
  · omega

theorem neg_cases (neg : Bool) (a : Rat) : (if neg then -(if neg then -a else a) else (if neg then -a else a)) = a := by cases neg <;> simp

/-- rounding: finite, and near -/
theorem RN.near {z : Nat} {q : Rat} (h : RN z q) (h1 : q ≤ p2 1023) (h2 : -q ≤ p2 1023) :
    ∃ r, V z r ∧ (∃ u, 0 < u ∧ (r - q) * 2 ≤ u ∧ (q - r) * 2 ≤ u ∧ (u = p2 (-1074) ∨ ((2 ^ 52 : Nat) : Rat) * u ≤ q ∨ ((2 ^ 52 : Nat) : Rat) * u ≤ -q)) := by
  obtain ⟨neg, ⟨rfl, rfl⟩ | ⟨kept, k, h, rfl⟩⟩ := h
  · exact ⟨0, V_zero neg, p2 (-1074), p2_pos _, by have := p2_pos (-1074); grind, by have := p2_pos (-1074); grind, Or.inl rfl⟩
  · have hs := h.small (by cases neg <;> simpa)
    rw [Nat.min_eq_left (by omega)]
    obtain ⟨m, p, e, hv, _⟩ := read_rung neg k kept h.le h.ge hs
    refine ⟨_, ⟨neg, m, p, e, rfl⟩, p2 (-1074 + k), p2_pos _, ?_, ?_, ?_⟩
    · have := h.lo; have := h.hi
      cases neg <;> simp [dv] at * <;> grind
    · have := h.lo; have := h.hi
      cases neg <;> simp [dv] at * <;> grind
    · rcases h.low with h0 | h0
      · subst h0; left; rfl
      · right; cases neg <;> simp at h0
        · exact Or.inl h0
        · exact Or.inr h0

/-- a number that the format has -/
def Rep (q : Rat) : Prop := ∃ (neg : Bool) (m : Nat) (e : Int), m ≤ 2 ^ 53 ∧ -1074 ≤ e ∧ q = (if neg then -(m : Rat) else (m : Rat)) * p2 e

theorem Rnd.exact {m : Nat} {e : Int} {kept k : Nat} (h : Rnd ((m : Rat) * p2 e) kept k) (hm : m ≤ 2 ^ 53) (he : -1074 ≤ e) :
    (kept : Rat) * p2 (-1074 + k) = (m : Rat) * p2 e := by
  have hu := p2_pos (-1074 + (k : Int))
  -- the number is N units
  have ⟨N, hN⟩ : ∃ N : Nat, (m : Rat) * p2 e = (N : Rat) * p2 (-1074 + k) := by
    by_cases hek : -1074 + (k : Int) ≤ e
    · refine ⟨m * 2 ^ (e - (-1074 + k)).toNat, ?_⟩
      rw [Rat.natCast_mul, ← p2_nat, Rat.mul_assoc, ← p2_add]
      congr 2; omega
    · refine ⟨2 ^ 52, ?_⟩
      have hk0 : k ≠ 0 := by omega
      have hlow := h.low.resolve_left hk0
      refine Rat.le_antisymm ?_ hlow
      have h1 : (m : Rat) ≤ ((2 ^ 53 : Nat) : Rat) := natR_le hm
      have h2 := Rat.mul_le_mul_of_nonneg_right h1 (Rat.le_of_lt (p2_pos e))
      have h3 : ((2 ^ 53 : Nat) : Rat) * p2 e ≤ ((2 ^ 52 : Nat) : Rat) * p2 (-1074 + k) := by
        rw [← p2_nat, ← p2_nat, ← p2_add, ← p2_add]; exact p2_mono (by omega)
      exact Rat.le_trans h2 h3
  rw [hN]
  have hlo := h.lo
  have hhi := h.hi
  rw [hN] at hlo hhi
  have a1 : ((kept * 2 : Nat) : Rat) ≤ ((N * 2 + 1 : Nat) : Rat) := by
    rw [Rat.natCast_add, Rat.natCast_mul, Rat.natCast_mul]
    refine Rat.le_of_mul_le_mul_right (c := p2 (-1074 + k)) ?_ hu
    simp
    grind
  have a2 : ((N * 2 : Nat) : Rat) ≤ ((kept * 2 + 1 : Nat) : Rat) := by
    rw [Rat.natCast_add, Rat.natCast_mul, Rat.natCast_mul]
    refine Rat.le_of_mul_le_mul_right (c := p2 (-1074 + k)) ?_ hu
    simp
    grind
  have b1 := Rat.natCast_le_natCast.1 a1
  have b2 := Rat.natCast_le_natCast.1 a2
  have : kept = N := by omega
  rw [this]

theorem RN.exact {z : Nat} {q : Rat} (h : RN z q) (hr : Rep q) (h1 : q ≤ p2 1023) (h2 : -q ≤ p2 1023) : V z q := by
  obtain ⟨neg, ⟨rfl, rfl⟩ | ⟨kept, k, h, rfl⟩⟩ := h
  · exact V_zero neg
  · obtain ⟨n', m, e, hm, he, rfl⟩ := hr
    have hs := h.small (by cases neg <;> simpa)
    rw [Nat.min_eq_left (by omega)]
    obtain ⟨m', p, e', hv, _⟩ := read_rung neg k kept h.le h.ge hs
    refine ⟨neg, m', p, e', ?_⟩
    have hp := h.pos
    have hmm : (0 : Rat) ≤ (m : Rat) * p2 e := Rat.mul_nonneg Rat.natCast_nonneg (Rat.le_of_lt (p2_pos e))
    have hnn : neg = n' := by
      cases neg <;> cases n' <;> simp at hp ⊢
      · grind
      · grind
    subst hnn
    have hx : Rnd ((m : Rat) * p2 e) kept k := by
      cases neg
      · simpa using h
      · have : (if true = true then -((if true = true then -(m : Rat) else (m : Rat)) * p2 e) else (if true = true then -(m : Rat) else (m : Rat)) * p2 e) = (m : Rat) * p2 e := by simp; grind
        rwa [this] at h
    have hx := hx.exact hm he
    cases neg <;> simp [dv] <;> grind
end Fl
namespace Fl
open Ieee

theorem signed_val (s : Bool) (m up : Nat) : ((signed s m up : Int) : Rat) = (if s then -(m : Rat) else (m : Rat)) * p2 up := by
  unfold signed
  cases s <;> simp [Nat.shiftLeft_eq, p2_nat, Rat.intCast_neg, Rat.intCast_natCast] <;> grind

theorem add_base (s : Bool) (m : Nat) (i base : Int) (h : base ≤ i) :
    ((signed s m (i - base).toNat : Int) : Rat) * p2 base = dv (.number s m i) := by
  rw [signed_val, Rat.mul_assoc, ← p2_add]
  have : ((i - base).toNat : Int) + base = i := by omega
  rw [this]; rfl

theorem natAbs_val (t : Int) : (if decide (t < 0) then -(t.natAbs : Rat) else (t.natAbs : Rat)) = (t : Rat) := by
  by_cases h : t < 0
  · have : (t : Rat) = -((t.natAbs : Nat) : Rat) := by
      rw [← Rat.intCast_natCast, ← Rat.intCast_neg]; congr 1; omega
    simp [h, this]
  · have : (t : Rat) = ((t.natAbs : Nat) : Rat) := by
      rw [← Rat.intCast_natCast]; congr 1; omega
    simp [h, this]

theorem sum_val (s : Bool) (m : Nat) (i : Int) (t : Bool) (n : Nat) (j : Int) :
    ∃ s' m' p', (Datum.number s m i).sum (.number t n j) = some (.number s' m' p') ∧ dv (.number s' m' p') = dv (.number s m i) + dv (.number t n j) := by
  simp only [Datum.sum]
  refine ⟨_, _, _, rfl, ?_⟩
  rw [← add_base s m i (min i j) (by omega), ← add_base t n j (min i j) (by omega), ← Rat.add_mul, ← Rat.intCast_add]
  generalize signed s m (i - min i j).toNat + signed t n (j - min i j).toNat = total
  by_cases h : total = 0
  · subst h; simp [dv]
  · simp only [if_neg h, dv]
    rw [natAbs_val]

theorem opposite_val (s : Bool) (m : Nat) (i : Int) : dv (Datum.number (!s) m i) = -dv (.number s m i) := by
  cases s <;> simp [dv] <;> grind

theorem add_V {x y : Nat} {a b : Rat} (hx : V x a) (hy : V y b) : ∃ z, D.add x y = some z ∧ RN z (a + b) := by
  obtain ⟨s, m, i, e, rfl⟩ := hx
  obtain ⟨t, n, j, e', rfl⟩ := hy
  unfold Format.add
  rw [e, e']
  obtain ⟨s', m', p', h, hv⟩ := sum_val s m i t n j
  rw [h, ← hv]
  exact ⟨_, rfl, write_RN ..⟩

theorem sub_V {x y : Nat} {a b : Rat} (hx : V x a) (hy : V y b) : ∃ z, D.sub x y = some z ∧ RN z (a - b) := by
  obtain ⟨s, m, i, e, rfl⟩ := hx
  obtain ⟨t, n, j, e', rfl⟩ := hy
  unfold Format.sub
  rw [e, e']
  obtain ⟨s', m', p', h, hv⟩ := sum_val s m i (!t) n j
  rw [opposite_val] at hv
  simp only [Datum.opposite]
  rw [h, Rat.sub_eq_add_neg, ← hv]
  exact ⟨_, rfl, write_RN ..⟩

theorem mul_V {x y : Nat} {a b : Rat} (hx : V x a) (hy : V y b) : ∃ z, D.mul x y = some z ∧ RN z (a * b) := by
  obtain ⟨s, m, i, e, rfl⟩ := hx
  obtain ⟨t, n, j, e', rfl⟩ := hy
  unfold Format.mul
  rw [e, e']
  refine ⟨_, rfl, ?_⟩
  have : dv (.number s m i) * dv (.number t n j) = dv (.number (s ^^ t) (m * n) (i + j)) := by
    cases s <;> cases t <;> simp [dv, p2_add, Rat.natCast_mul] <;> grind
  rw [this]
  exact write_RN ..

theorem compare_rat (a b : Int) (u : Rat) (hu : 0 < u) :
    (compare a b = .lt ↔ (a : Rat) * u < (b : Rat) * u) ∧ (compare a b = .eq ↔ (a : Rat) * u = (b : Rat) * u) ∧ (compare a b = .gt ↔ (b : Rat) * u < (a : Rat) * u) := by
  refine ⟨?_, ?_, ?_⟩
  · rw [Rat.mul_lt_mul_right hu, Rat.intCast_lt_intCast, Int.compare_eq_lt]
  · rw [Int.compare_eq_eq]
    constructor
    · rintro rfl; rfl
    · intro h
      have h1 : (a : Rat) ≤ b := Rat.le_of_mul_le_mul_right (by rw [h]; exact Rat.le_refl) hu
      have h2 : (b : Rat) ≤ a := Rat.le_of_mul_le_mul_right (by rw [h]; exact Rat.le_refl) hu
      exact Int.le_antisymm (Rat.intCast_le_intCast.1 h1) (Rat.intCast_le_intCast.1 h2)
  · rw [Rat.mul_lt_mul_right hu, Rat.intCast_lt_intCast, Int.compare_eq_gt]

def cmp (a b : Rat) : Ordering := if a < b then .lt else if a = b then .eq else .gt

theorem order_V {x y : Nat} {a b : Rat} (hx : V x a) (hy : V y b) : D.order x y = some (cmp a b) := by
  obtain ⟨s, m, i, e, rfl⟩ := hx
  obtain ⟨t, n, j, e', rfl⟩ := hy
  unfold Format.order
  rw [e, e']
  simp only [Datum.order]
  congr 1
  rw [← add_base s m i (min i j) (by omega), ← add_base t n j (min i j) (by omega)]
  generalize signed s m (i - min i j).toNat = A
  generalize signed t n (j - min i j).toNat = B
  obtain ⟨h1, h2, h3⟩ := compare_rat A B (p2 (min i j)) (p2_pos _)
  unfold cmp
  cases hc : compare A B
  · rw [if_pos (h1.1 hc)]
  · have := h2.1 hc
    rw [if_neg (by rw [this]; exact Rat.lt_irrefl), if_pos this]
  · have := h3.1 hc
    rw [if_neg (by grind), if_neg (by grind)]

end Fl
namespace Fl
open Ieee Go

theorem f64D : FloatKind.f64.format = D := rfl

/-! whole numbers -/
def IsI (x : Nat) (n : Int) : Prop := V x (n : Rat)

theorem rep_int (n : Int) (h : n.natAbs ≤ 2 ^ 53) : Rep (n : Rat) := by
  refine ⟨decide (n < 0), n.natAbs, 0, h, by decide, ?_⟩
  rw [natAbs_val, p2_zero]; simp

theorem int_small (n : Int) (h : n.natAbs ≤ 2 ^ 53) : (n : Rat) ≤ p2 1023 ∧ -(n : Rat) ≤ p2 1023 := by
  have h1 : p2 ((53 : Nat) : Int) ≤ p2 1023 := p2_mono (by decide)
  rw [p2_nat] at h1
  have h2 : (n : Rat) ≤ ((2 ^ 53 : Nat) : Rat) := by
    rw [← Rat.intCast_natCast]; exact Rat.intCast_le_intCast.2 (by omega)
  have h3 : -(n : Rat) ≤ ((2 ^ 53 : Nat) : Rat) := by
    rw [← Rat.intCast_neg, ← Rat.intCast_natCast]; exact Rat.intCast_le_intCast.2 (by omega)
  exact ⟨Rat.le_trans h2 h1, Rat.le_trans h3 h1⟩

theorem RN_int {z : Nat} {n : Int} (h : RN z (n : Rat)) (hn : n.natAbs ≤ 2 ^ 53) : IsI z n :=
  h.exact (rep_int n hn) (int_small n hn).1 (int_small n hn).2

theorem add_I {x y : Nat} {a b : Int} (hx : IsI x a) (hy : IsI y b) (h : (a + b).natAbs ≤ 2 ^ 53) : ∃ z, floatBits .add .f64 x y = some z ∧ IsI z (a + b) := by
  obtain ⟨z, e, hz⟩ := add_V hx hy
  rw [← Rat.intCast_add] at hz
  exact ⟨z, e, RN_int hz h⟩
theorem sub_I {x y : Nat} {a b : Int} (hx : IsI x a) (hy : IsI y b) (h : (a - b).natAbs ≤ 2 ^ 53) : ∃ z, floatBits .sub .f64 x y = some z ∧ IsI z (a - b) := by
  obtain ⟨z, e, hz⟩ := sub_V hx hy
  rw [← Rat.intCast_sub] at hz
  exact ⟨z, e, RN_int hz h⟩
theorem mul_I {x y : Nat} {a b : Int} (hx : IsI x a) (hy : IsI y b) (h : (a * b).natAbs ≤ 2 ^ 53) : ∃ z, floatBits .mul .f64 x y = some z ∧ IsI z (a * b) := by
  obtain ⟨z, e, hz⟩ := mul_V hx hy
  rw [← Rat.intCast_mul] at hz
  exact ⟨z, e, RN_int hz h⟩

theorem ofInt_RN (n : Int) : RN (floatOfInt .f64 n) (n : Rat) := by
  have : RN (D.write (.number (decide (n < 0)) n.natAbs 0)) ((if decide (n < 0) then -(n.natAbs : Rat) else (n.natAbs : Rat)) * p2 0) := write_RN (decide (n < 0)) n.natAbs 0
  rw [natAbs_val, p2_zero, Rat.mul_one] at this
  exact this
theorem ofInt_I (n : Int) (h : n.natAbs ≤ 2 ^ 53) : IsI (floatOfInt .f64 n) n := RN_int (ofInt_RN n) h

theorem cmp_int (a b : Int) : cmp (a : Rat) (b : Rat) = compare a b := by
  unfold cmp
  by_cases h1 : a < b
  · rw [if_pos (Rat.intCast_lt_intCast.2 h1)]; exact (Int.compare_eq_lt.2 h1).symm
  · rw [if_neg (fun h => h1 (Rat.intCast_lt_intCast.1 h))]
    by_cases h2 : a = b
    · subst h2; rw [if_pos rfl]; exact (Int.compare_eq_eq.2 rfl).symm
    · rw [if_neg (fun h => h2 (Rat.intCast_inj.1 h))]; exact (Int.compare_eq_gt.2 (by omega)).symm
theorem order_I {x y : Nat} {a b : Int} (hx : IsI x a) (hy : IsI y b) : FloatKind.f64.format.order x y = some (compare a b) := by
  rw [← cmp_int]; exact order_V hx hy

/-! the comparisons as Bools -/
theorem cmp_lt (a b : Rat) : (some (cmp a b) == some Ordering.lt) = decide (a < b) := by
  unfold cmp; by_cases h : a < b
  · simp [h]
  · by_cases h2 : a = b <;> simp [h, h2]
theorem cmp_eq (a b : Rat) : (some (cmp a b) == some Ordering.eq) = decide (a = b) := by
  unfold cmp; by_cases h : a < b
  · have : a ≠ b := Rat.ne_of_lt h
    simp [h, this]
  · by_cases h2 : a = b
    · simp [h2, Rat.lt_irrefl]
    · simp [h, h2]
theorem cmp_gt (a b : Rat) : (some (cmp a b) == some Ordering.gt) = decide (b < a) := by
  unfold cmp; by_cases h : a < b
  · have : ¬ b < a := by grind
    simp [h, this]
  · by_cases h2 : a = b
    · simp [h2, Rat.lt_irrefl]
    · have : b < a := by grind
      simp [h, h2, this]

section
variable {x y : Nat} {a b : Rat} (hx : V x a) (hy : V y b)
include hx hy
theorem lt_V : (FloatKind.f64.format.order x y == some .lt) = decide (a < b) := by rw [f64D, order_V hx hy, cmp_lt]
theorem eq_V : (FloatKind.f64.format.order x y == some .eq) = decide (a = b) := by rw [f64D, order_V hx hy, cmp_eq]
theorem gt_V : (FloatKind.f64.format.order x y == some .gt) = decide (b < a) := by rw [f64D, order_V hx hy, cmp_gt]
theorem ne_V : (FloatKind.f64.format.order x y != some .eq) = !decide (a = b) := by rw [bne, eq_V hx hy]
theorem le_V : (FloatKind.f64.format.order x y == some .lt || FloatKind.f64.format.order x y == some .eq) = decide (a ≤ b) := by
  rw [lt_V hx hy, eq_V hx hy, ← Bool.decide_or]
  exact decide_eq_decide.2 Rat.le_iff_lt_or_eq.symm
theorem ge_V : (FloatKind.f64.format.order x y == some .gt || FloatKind.f64.format.order x y == some .eq) = decide (b ≤ a) := by
  rw [gt_V hx hy, eq_V hx hy, ← Bool.decide_or]
  refine decide_eq_decide.2 ?_
  rw [Rat.le_iff_lt_or_eq]; exact or_congr Iff.rfl ⟨Eq.symm, Eq.symm⟩
end

/-! to an integer -/
def tz (q : Rat) : Int := if 0 ≤ q then q.floor else -(-q).floor

theorem cut_zero (neg : Bool) (n drop : Nat) : Toward.zero.cut neg n drop = n / 2 ^ drop := by
  unfold Toward.cut
  simp only [Bool.toNat_false, Nat.add_zero, Nat.shiftLeft_eq, Nat.one_mul]
  by_cases hd : drop ≤ n.log2 + 2
  · rw [Nat.min_eq_left hd]
  · rw [Nat.min_eq_right (by omega)]
    have hl := Nat.lt_log2_self (n := n)
    have h4 : 2 ^ (n.log2 + 2) = 2 * 2 ^ (n.log2 + 1) := by rw [Nat.pow_succ 2 (n.log2 + 1)]; omega
    have hp : 2 ^ (n.log2 + 2) ≤ 2 ^ drop := Nat.pow_le_pow_right (by omega) (by omega)
    rw [Nat.div_eq_of_lt (by omega), Nat.div_eq_of_lt (by omega)]

theorem floor_nat_div (n g : Nat) (hg : 0 < g) (q : Rat) (h : q * (g : Rat) = (n : Rat)) : q.floor = ((n / g : Nat) : Int) := by
  have hgr : (0 : Rat) < (g : Rat) := Rat.natCast_pos.2 hg
  have h1 := Nat.div_add_mod n g
  have h2 := Nat.mod_lt n hg
  refine Int.le_antisymm ?_ ?_
  · refine Int.lt_add_one_iff.1 (Rat.floor_lt_iff.2 ?_)
    refine Rat.lt_of_mul_lt_mul_right (c := (g : Rat)) ?_ (Rat.le_of_lt hgr)
    rw [h, ← Rat.intCast_natCast g, ← Rat.intCast_mul, ← Rat.intCast_natCast n]
    refine Rat.intCast_lt_intCast.2 ?_
    have : ((n / g : Nat) : Int) + 1 = ((n / g + 1 : Nat) : Int) := rfl
    rw [this, ← Int.natCast_mul]
    refine Int.ofNat_lt.2 ?_
    rw [Nat.add_mul, Nat.mul_comm (n / g)]; omega
  · refine Rat.le_floor_iff.2 ?_
    refine Rat.le_of_mul_le_mul_right (c := (g : Rat)) ?_ hgr
    rw [h, Rat.intCast_natCast, ← Rat.natCast_mul]
    refine Rat.natCast_le_natCast.2 ?_
    rw [Nat.mul_comm]; exact Nat.mul_div_le n g

theorem integral_val (s : Bool) (m : Nat) (i : Int) :
    (signed s (Toward.zero.cut s (m <<< i.toNat) (-i).toNat) 0) = tz (dv (.number s m i)) := by
  rw [cut_zero, Nat.shiftLeft_eq]
  have key : ((m : Rat) * p2 i) * ((2 ^ (-i).toNat : Nat) : Rat) = ((m * 2 ^ i.toNat : Nat) : Rat) := by
    rw [← p2_nat, Rat.mul_assoc, ← p2_add, Rat.natCast_mul, ← p2_nat]
    congr 2; omega
  have hf := floor_nat_div (m * 2 ^ i.toNat) (2 ^ (-i).toNat) (Nat.two_pow_pos _) _ key
  have h0 : 0 ≤ (m : Rat) * p2 i := Rat.mul_nonneg Rat.natCast_nonneg (Rat.le_of_lt (p2_pos i))
  unfold tz dv signed
  cases s
  · simp only [Bool.false_eq_true, if_false, Nat.shiftLeft_zero]
    rw [if_pos h0, hf]
  · simp only [if_true, Nat.shiftLeft_zero]
    have e : -(-(m : Rat) * p2 i) = (m : Rat) * p2 i := by grind
    rw [e, hf]
    by_cases hz : 0 ≤ -(m : Rat) * p2 i
    · have hz0 : (m : Rat) * p2 i = 0 := by grind
      have hz1 : -(m : Rat) * p2 i = 0 := by grind
      rw [hz0] at hf
      have : Rat.floor 0 = 0 := rfl
      rw [this] at hf
      rw [if_pos hz, hz1, this, ← hf]; rfl
    · rw [if_neg hz]

theorem toInt_V {x : Nat} {q : Rat} (h : V x q) : (D.read x).toInt .zero = some (tz q) := by
  obtain ⟨s, m, i, e, rfl⟩ := h
  rw [e]
  simp only [Datum.toInt, Datum.integral]
  rw [integral_val]

theorem tz_int (n : Int) : tz (n : Rat) = n := by
  unfold tz
  split
  · exact Rat.floor_intCast n
  · rw [← Rat.intCast_neg, Rat.floor_intCast]; omega

theorem floatToInt_I {x : Nat} {n : Int} (h : IsI x n) (k : IntKind) (hk : k.min ≤ n ∧ n ≤ k.max) : floatToIntVal .f64 x k = some n := by
  unfold floatToIntVal
  have : (FloatKind.f64.decode x).toInt .zero = some n := by rw [show FloatKind.f64.decode x = D.read x from rfl, toInt_V h, tz_int]
  rw [this]; simp only []; rw [if_pos hk]

/-- math.Trunc -/
def truncBits (x : Nat) : Nat := FloatKind.f64.encode ((FloatKind.f64.decode x).integral .zero)
theorem trunc_RN {x : Nat} {q : Rat} (h : V x q) : RN (truncBits x) ((tz q : Int) : Rat) := by
  obtain ⟨s, m, i, e, rfl⟩ := h
  unfold truncBits
  rw [show FloatKind.f64.decode x = D.read x from rfl, e]
  simp only [Datum.integral]
  rw [← integral_val, signed_val]
  have := write_RN s (Toward.zero.cut s (m <<< i.toNat) (-i).toNat) 0
  exact this
end Fl
namespace Fl
open Ieee Go

theorem xor_top (r : Nat) (h : r < 2 ^ 63) : r ^^^ 2 ^ 63 = 2 ^ 63 + r ∧ (2 ^ 63 + r) ^^^ 2 ^ 63 = r := by
  have h1 : r ^^^ 2 ^ 63 = 2 ^ 63 + r := by
    refine Nat.eq_of_testBit_eq fun i => ?_
    rw [Nat.testBit_xor]
    by_cases hi : i < 63
    · rw [Nat.testBit_two_pow_add_gt hi, Nat.testBit_two_pow_of_ne (by omega)]; simp
    · by_cases he : i = 63
      · subst he
        rw [Nat.testBit_two_pow_add_eq, Nat.testBit_lt_two_pow h, Nat.testBit_two_pow_self]; rfl
      · have hlt : 2 ^ 63 + r < 2 ^ i := by
          have : 2 ^ 64 ≤ 2 ^ i := Nat.pow_le_pow_right (by omega) (by omega)
          omega
        have hlt2 : r < 2 ^ i := by omega
        rw [Nat.testBit_lt_two_pow hlt, Nat.testBit_lt_two_pow hlt2, Nat.testBit_two_pow_of_ne (by omega)]; rfl
  refine ⟨h1, ?_⟩
  rw [← h1, Nat.xor_assoc, Nat.xor_self, Nat.xor_zero]

theorem negFloat_lt (x : Nat) (h : x < 2 ^ 63) : Op.negFloat .f64 x = 2 ^ 63 + x := (xor_top x h).1
theorem negFloat_ge (x : Nat) (h : x < 2 ^ 63) : Op.negFloat .f64 (2 ^ 63 + x) = x := (xor_top x h).2

theorem read_neg (x : Nat) (h : x < 2 ^ 64) : D.read (Op.negFloat .f64 x) = (D.read x).opposite := by
  have key : ∀ r, r < 2 ^ 63 → ∀ s : Bool, D.read (D.word s r) = (D.read (D.word (!s) r)).opposite := by
    intro r hr s
    have e1 : ∀ s, (D.word s r) % 2 ^ 63 = r := by intro s; cases s <;> simp [Format.word, D_sw] <;> omega
    have e2 : ∀ s, (D.word s r / 2 ^ 63 % 2 == 1) = s := by
      intro s
      cases s
      · have : D.word false r / 2 ^ 63 = 0 := by simp [Format.word]; omega
        simp [this]
      · have : D.word true r / 2 ^ 63 = 1 := by simp [Format.word, D_sw]; omega
        simp [this]
    unfold Format.read
    rw [D_sw]
    simp only [e1, e2]
    split
    · simp [Datum.opposite]
    · split
      · simp [Datum.opposite]
      · split <;> simp [Datum.opposite]
  by_cases hx : x < 2 ^ 63
  · rw [negFloat_lt x hx]
    exact key x hx true
  · obtain ⟨r, rfl⟩ : ∃ r, x = 2 ^ 63 + r := ⟨x - 2 ^ 63, by omega⟩
    rw [negFloat_ge r (by omega)]
    exact key r (by omega) false

theorem neg_V {x : Nat} {q : Rat} (h : V x q) (hx : x < 2 ^ 64) : V (Op.negFloat .f64 x) (-q) := by
  obtain ⟨s, m, p, e, rfl⟩ := h
  refine ⟨!s, m, p, ?_, opposite_val s m p⟩
  rw [read_neg x hx, e]; rfl
theorem neg_I {x : Nat} {n : Int} (h : IsI x n) (hx : x < 2 ^ 64) : IsI (Op.negFloat .f64 x) (-n) := by
  have := neg_V h hx
  rw [← Rat.intCast_neg] at this
  exact this

theorem tz_bound (q : Rat) (m : Int) (h1 : -(m : Rat) ≤ q) (h2 : q ≤ (m : Rat)) : -m ≤ tz q ∧ tz q ≤ m := by
  unfold tz
  split
  · rename_i h0
    have h3 : (0 : Int) ≤ q.floor := Rat.le_floor_iff.2 h0
    have h4 : ((q.floor : Int) : Rat) ≤ (m : Rat) := Rat.le_trans (Rat.floor_le q) h2
    have := Rat.intCast_le_intCast.1 h4
    omega
  · have h3 : (0 : Int) ≤ (-q).floor := Rat.le_floor_iff.2 (by rw [Rat.intCast_zero]; grind)
    have h4 : (((-q).floor : Int) : Rat) ≤ (m : Rat) := Rat.le_trans (Rat.floor_le _) (by grind)
    have := Rat.intCast_le_intCast.1 h4
    omega

open Classical in
/-- a whole number from -m to m -/
noncomputable def wholeB (m : Int) (x : Nat) : Bool := decide (∃ n : Int, IsI x n ∧ -m ≤ n ∧ n ≤ m)

section
open Classical
theorem wholeB_true {m : Int} {x : Nat} (h : wholeB m x = true) : ∃ n : Int, IsI x n ∧ -m ≤ n ∧ n ≤ m := by
  unfold wholeB at h; exact of_decide_eq_true h
theorem wholeB_false {m : Int} {x : Nat} (h : wholeB m x = false) : ¬ ∃ n : Int, IsI x n ∧ -m ≤ n ∧ n ≤ m := by
  unfold wholeB at h; exact of_decide_eq_false h
theorem wholeB_mk {m : Int} {x : Nat} {n : Int} (h : IsI x n) (h1 : -m ≤ n) (h2 : n ≤ m) : wholeB m x = true := by
  unfold wholeB; exact decide_eq_true ⟨n, h, h1, h2⟩

end
theorem finite_of_between {x lo hi : Nat} {a b : Rat} (hlo : V lo a) (hhi : V hi b)
    (c1 : (FloatKind.f64.format.order x lo == some .gt || FloatKind.f64.format.order x lo == some .eq) = true)
    (c2 : (FloatKind.f64.format.order x hi == some .lt || FloatKind.f64.format.order x hi == some .eq) = true) : ∃ q, V x q := by
  cases hr : D.read x with
  | number s m p => exact ⟨_, s, m, p, hr, rfl⟩
  | infinity s =>
    exfalso
    obtain ⟨s1, m1, p1, e1, _⟩ := hlo
    obtain ⟨s2, m2, p2, e2, _⟩ := hhi
    rw [f64D] at c1 c2
    unfold Format.order at c1 c2
    rw [hr, e1] at c1
    rw [hr, e2] at c2
    cases s <;> simp [Datum.order] at c1 c2
  | nan s f =>
    exfalso
    rw [f64D] at c1
    unfold Format.order at c1
    rw [hr] at c1
    simp [Datum.order] at c1

/-- the tests of 'a whole number from -most to most', as the code has them -/
theorem whole_tests {x mb : Nat} {m : Int} (hm : IsI mb m) (hb : mb < 2 ^ 64) (h53 : m ≤ 2 ^ 53) :
    ((FloatKind.f64.format.order x (Op.negFloat .f64 mb) == some .gt || FloatKind.f64.format.order x (Op.negFloat .f64 mb) == some .eq) &&
      ((FloatKind.f64.format.order x mb == some .lt || FloatKind.f64.format.order x mb == some .eq) && !(FloatKind.f64.format.order x (truncBits x) != some .eq))) = wholeB m x := by
  have hn := neg_I hm hb
  cases hw : wholeB m x with
  | true =>
    obtain ⟨n, hx, h1, h2⟩ := wholeB_true hw
    have ht := trunc_RN hx
    rw [tz_int] at ht
    have ht' := RN_int ht (by omega)
    rw [ge_V hx hn, le_V hx hm, ne_V hx ht']
    have a1 : ((-m : Int) : Rat) ≤ (n : Rat) := Rat.intCast_le_intCast.2 h1
    have a2 : (n : Rat) ≤ (m : Rat) := Rat.intCast_le_intCast.2 h2
    rw [decide_eq_true a1, decide_eq_true a2]; simp
  | false =>
    have hw := wholeB_false hw
    cases c1 : (FloatKind.f64.format.order x (Op.negFloat .f64 mb) == some .gt || FloatKind.f64.format.order x (Op.negFloat .f64 mb) == some .eq) with
    | false => simp
    | true =>
      cases c2 : (FloatKind.f64.format.order x mb == some .lt || FloatKind.f64.format.order x mb == some .eq) with
      | false => simp
      | true =>
        obtain ⟨q, hx⟩ := finite_of_between hn hm c1 c2
        rw [ge_V hx hn] at c1
        rw [le_V hx hm] at c2
        have a1 := of_decide_eq_true c1
        have a2 := of_decide_eq_true c2
        rw [Rat.intCast_neg] at a1
        have hb := tz_bound q m a1 a2
        have ht := RN_int (trunc_RN hx) (by omega)
        rw [ne_V hx ht]
        have : q ≠ ((tz q : Int) : Rat) := fun e => hw ⟨tz q, by unfold IsI; rw [← e]; exact hx, hb⟩
        simp [this]
end Fl
namespace Fl
open Ieee Go

theorem Rnd.sticky {q : Nat} {e : Int} {kept k : Nat} {t : Rat} (h : Rnd (((2 * q + 1 : Nat) : Rat) * p2 e) kept k) (hq : 2 ^ 53 ≤ q)
    (h1 : ((2 * q : Nat) : Rat) * p2 e ≤ t) (h2 : t < ((2 * q + 2 : Nat) : Rat) * p2 e) : Rnd t kept k := by
  have hw := p2_pos e
  -- the unit is at least four of the last place's
  have hge : e + 2 ≤ -1074 + (k : Int) := by
    by_cases hc : e + 2 ≤ -1074 + (k : Int)
    · exact hc
    · exfalso
      have h3 : p2 (-1074 + (k : Int)) ≤ p2 (e + 1) := p2_mono (by omega)
      have h4 := h.top
      have h5 : ((2 ^ 53 : Nat) : Rat) * p2 (-1074 + k) ≤ ((2 ^ 53 : Nat) : Rat) * p2 (e + 1) := Rat.mul_le_mul_of_nonneg_left h3 Rat.natCast_nonneg
      have h6 : ((2 ^ 53 : Nat) : Rat) * p2 (e + 1) = ((2 ^ 54 : Nat) : Rat) * p2 e := by
        rw [← p2_nat, ← p2_nat, ← p2_add, ← p2_add]; congr 1; omega
      have h7 : ((2 ^ 54 : Nat) : Rat) ≤ ((2 * q + 1 : Nat) : Rat) := natR_le (by omega)
      have h8 := Rat.mul_le_mul_of_nonneg_right h7 (Rat.le_of_lt hw)
      grind
  obtain ⟨c, hc⟩ : ∃ c : Nat, p2 (-1074 + (k : Int)) = ((4 * c : Nat) : Rat) * p2 e := by
    refine ⟨2 ^ (-1074 + (k : Int) - (e + 2)).toNat, ?_⟩
    rw [show (4 : Nat) = 2 ^ 2 from rfl, ← Nat.pow_add, ← p2_nat, ← p2_add]; congr 1; omega
  have cast_le : ∀ a b : Nat, (a : Rat) * p2 e ≤ (b : Rat) * p2 e → a ≤ b := fun a b hab => Rat.natCast_le_natCast.1 (Rat.le_of_mul_le_mul_right hab hw)
  have le_cast : ∀ a b : Nat, a ≤ b → (a : Rat) * p2 e ≤ (b : Rat) * p2 e := fun a b hab => Rat.mul_le_mul_of_nonneg_right (natR_le hab) (Rat.le_of_lt hw)
  obtain ⟨hpos, hlo, hhi, hlow, htop, hle, hge'⟩ := h
  rw [hc] at hlo hhi hlow htop
  refine ⟨?_, ?_, ?_, ?_, ?_, hle, hge'⟩
  · have : (0 : Rat) < ((2 * q : Nat) : Rat) * p2 e := Rat.mul_pos (Rat.natCast_pos.2 (by omega)) hw
    grind
  · rw [hc]
    have a1 := cast_le (kept * (4 * c) * 2) ((2 * q + 1) * 2 + 4 * c) (by simp only [Rat.natCast_mul, Rat.natCast_add] at *; grind)
    have a2 : kept * (4 * c) * 2 ≤ 2 * q * 2 + 4 * c := by
      have : kept * (4 * c) = 4 * (kept * c) := Nat.mul_left_comm ..
      omega
    have a3 := le_cast _ _ a2
    simp only [Rat.natCast_mul, Rat.natCast_add] at *
    grind
  · rw [hc]
    have a1 := cast_le ((2 * q + 1) * 2) (kept * (4 * c) * 2 + 4 * c) (by simp only [Rat.natCast_mul, Rat.natCast_add] at *; grind)
    have a2 : (2 * q + 2) * 2 ≤ kept * (4 * c) * 2 + 4 * c := by
      have : kept * (4 * c) = 4 * (kept * c) := Nat.mul_left_comm ..
      omega
    have a3 := le_cast _ _ a2
    simp only [Rat.natCast_mul, Rat.natCast_add] at *
    grind
  · rcases hlow with h0 | h0
    · exact Or.inl h0
    · right
      rw [hc]
      have a1 := cast_le (2 ^ 52 * (4 * c)) (2 * q + 1) (by simp only [Rat.natCast_mul] at *; grind)
      have a2 : 2 ^ 52 * (4 * c) ≤ 2 * q := by omega
      have a3 := le_cast _ _ a2
      simp only [Rat.natCast_mul] at *
      grind
  · rw [hc]
    have a1 : 2 * q + 1 < 2 ^ 53 * (4 * c) := by
      refine Rat.natCast_lt_natCast.1 (Rat.lt_of_mul_lt_mul_right (c := p2 e) ?_ (Rat.le_of_lt hw))
      simp only [Rat.natCast_mul] at *
      grind
    have a2 : 2 * q + 2 ≤ 2 ^ 53 * (4 * c) := by omega
    have a3 := le_cast _ _ a2
    simp only [Rat.natCast_mul] at *
    grind

theorem dv_sign (s : Bool) (m : Nat) (i : Int) : dv (.number s m i) = (if s then -((m : Rat) * p2 i) else (m : Rat) * p2 i) := by
  cases s <;> simp [dv] <;> grind

/-- the quotient of magnitudes, rounded -/
theorem quo_mag (neg : Bool) (m n : Nat) (i j : Int) (hm : m ≠ 0) (hn : n ≠ 0) (d : Rat) (hd : d * ((n : Rat) * p2 j) = (m : Rat) * p2 i) :
    let more := 54 + n.log2 - m.log2
    let dividend := m <<< more
    ∃ kept k, Rnd d kept k ∧ D.nearest neg (2 * (dividend / n) + (dividend % n != 0).toNat) (i - j - more - 1) = D.word neg (min (k * 2 ^ 52 + kept) (2047 * 2 ^ 52)) := by
  intro more dividend
  have hnp : 0 < n := Nat.pos_of_ne_zero hn
  have hdiv : dividend = m * 2 ^ more := Nat.shiftLeft_eq ..
  have l1 : 2 ^ m.log2 ≤ m := Nat.log2_self_le hm
  have l2 : n < 2 ^ (n.log2 + 1) := Nat.lt_log2_self
  have hbig : 2 ^ 53 * n < dividend := by
    rw [hdiv]
    have h1 : 2 ^ m.log2 * 2 ^ more ≤ m * 2 ^ more := Nat.mul_le_mul_right _ l1
    rw [← Nat.pow_add] at h1
    have h2 : 2 ^ (54 + n.log2) ≤ 2 ^ (m.log2 + more) := Nat.pow_le_pow_right (by omega) (by omega)
    have h3 : 2 ^ (54 + n.log2) = 2 ^ 53 * 2 ^ (n.log2 + 1) := by rw [← Nat.pow_add]; congr 1; omega
    have h4 : 2 ^ 53 * n < 2 ^ 53 * 2 ^ (n.log2 + 1) := Nat.mul_lt_mul_of_pos_left l2 (by decide)
    omega
  have hq : 2 ^ 53 ≤ dividend / n := (Nat.le_div_iff_mul_le hnp).2 (by omega)
  have hdm := Nat.div_add_mod dividend n
  have hml := Nat.mod_lt dividend hnp
  have hw := p2_pos (i - j - more - 1)
  -- d in units of the last place
  have hnr : (0 : Rat) < (n : Rat) := Rat.natCast_pos.2 hnp
  have key : d * (n : Rat) = ((2 * dividend : Nat) : Rat) * p2 (i - j - more - 1) := by
    have e1 : p2 i = p2 (i - j) * p2 j := p2_split i j
    have e2 : p2 (i - j) = ((2 ^ more : Nat) : Rat) * 2 * p2 (i - j - more - 1) := by
      rw [← p2_nat, ← p2_one, ← p2_add, ← p2_add]; congr 1; omega
    have hj := p2_pos j
    have : (d * (n : Rat)) * p2 j = (((2 * dividend : Nat) : Rat) * p2 (i - j - more - 1)) * p2 j := by
      rw [hdiv]
      simp only [Rat.natCast_mul]
      rw [e1, e2] at hd
      grind
    exact Rat.le_antisymm (Rat.le_of_mul_le_mul_right (by rw [this]; exact Rat.le_refl) hj) (Rat.le_of_mul_le_mul_right (by rw [this]; exact Rat.le_refl) hj)
  have hdr : (dividend : Rat) = (n : Rat) * ((dividend / n : Nat) : Rat) + ((dividend % n : Nat) : Rat) := by
    rw [← Rat.natCast_mul, ← Rat.natCast_add, hdm]
  have hrr : ((dividend % n : Nat) : Rat) < (n : Rat) := Rat.natCast_lt_natCast.2 hml
  generalize hQ : dividend / n = Q at *
  generalize hR : dividend % n = r at *
  rw [Rat.natCast_mul, hdr] at key
  have two : ((2 : Nat) : Rat) = 2 := rfl
  by_cases h0 : r = 0
  · subst h0
    simp only [bne_self_eq_false, Bool.toNat_false, Nat.add_zero]
    obtain ⟨kept, k, h, e⟩ := nearest_rnd neg (2 * Q) (i - j - more - 1) (by omega)
    refine ⟨kept, k, ?_, e⟩
    have : d = ((2 * Q : Nat) : Rat) * p2 (i - j - more - 1) := by
      have z : ((0 : Nat) : Rat) = 0 := rfl
      rw [Rat.natCast_mul, two]
      rw [z, two] at key
      refine Rat.le_antisymm ?_ ?_ <;> refine Rat.le_of_mul_le_mul_right (c := (n : Rat)) ?_ hnr <;> grind
    rw [this]; exact h
  · have hb : (r != 0) = true := by simp [h0]
    have hr0 : (0 : Rat) < (r : Rat) := Rat.natCast_pos.2 (by omega)
    rw [hb]
    simp only [Bool.toNat_true]
    obtain ⟨kept, k, h, e⟩ := nearest_rnd neg (2 * Q + 1) (i - j - more - 1) (by omega)
    have hp := Rat.mul_pos hr0 hw
    have hp2 : (r : Rat) * p2 (i - j - more - 1) < (n : Rat) * p2 (i - j - more - 1) := Rat.mul_lt_mul_of_pos_right hrr hw
    refine ⟨kept, k, h.sticky hq ?_ ?_, e⟩
    · refine Rat.le_of_mul_le_mul_right (c := (n : Rat)) ?_ hnr
      rw [key, Rat.natCast_mul, two]
      grind
    · refine Rat.lt_of_mul_lt_mul_right (c := (n : Rat)) ?_ (Rat.le_of_lt hnr)
      rw [key, Rat.natCast_add, Rat.natCast_mul, two]
      grind

theorem div_V {x y : Nat} {a b : Rat} (hx : V x a) (hy : V y b) (hb : b ≠ 0) : ∃ z, D.div x y = some z ∧ RN z (a / b) := by
  obtain ⟨s, m, i, e, rfl⟩ := hx
  obtain ⟨t, n, j, e', rfl⟩ := hy
  have hn : n ≠ 0 := by rintro rfl; apply hb; cases t <;> simp [dv]
  unfold Format.div
  rw [e, e']
  simp only [Datum.quotient, if_neg hn]
  refine ⟨_, rfl, ?_⟩
  have hnr : (0 : Rat) < (n : Rat) := Rat.natCast_pos.2 (Nat.pos_of_ne_zero hn)
  have hj := p2_pos j
  have hnj : (0 : Rat) < (n : Rat) * p2 j := Rat.mul_pos hnr hj
  by_cases hm : m = 0
  · subst hm
    refine ⟨s ^^ t, Or.inl ⟨?_, ?_⟩⟩
    · rw [dv_sign]; simp; rw [Rat.div_def]; cases s <;> simp
    · simp [Format.write, Format.nearest]
  · have hd : (((m : Rat) * p2 i) / ((n : Rat) * p2 j)) * ((n : Rat) * p2 j) = (m : Rat) * p2 i := Rat.div_mul_cancel (Rat.ne_of_gt hnj)
    obtain ⟨kept, k, h, e2⟩ := quo_mag (s ^^ t) m n i j hm hn _ hd
    refine ⟨s ^^ t, Or.inr ⟨kept, k, ?_, e2⟩⟩
    have : (if (s ^^ t) = true then -(dv (.number s m i) / dv (.number t n j)) else dv (.number s m i) / dv (.number t n j)) = ((m : Rat) * p2 i) / ((n : Rat) * p2 j) := by
      rw [dv_sign, dv_sign]
      simp only [Rat.div_def]
      cases s <;> cases t <;> simp <;> grind
    rw [this]; exact h
end Fl
namespace Fl
open Ieee Go

theorem rootFrom_spec (n : Nat) : ∀ (todo root : Nat), root * root ≤ n → n < (root + 2 ^ todo) * (root + 2 ^ todo) →
    Datum.rootFrom n todo root * Datum.rootFrom n todo root ≤ n ∧ n < (Datum.rootFrom n todo root + 1) * (Datum.rootFrom n todo root + 1)
  | 0, root, h1, h2 => by simpa [Datum.rootFrom] using ⟨h1, h2⟩
  | todo + 1, root, h1, h2 => by
    simp only [Datum.rootFrom, Nat.shiftLeft_eq, Nat.one_mul]
    split
    · rename_i h
      refine rootFrom_spec n todo _ h ?_
      have : root + 2 ^ todo + 2 ^ todo = root + 2 ^ (todo + 1) := by rw [Nat.pow_succ]; omega
      rw [this]; exact h2
    · rename_i h
      exact rootFrom_spec n todo root h1 (by omega)

/-- 'z' is the square root of 'q', rounded: the root lies from t0 to t1, and whatever lies there rounds so -/
def RS (z : Nat) (q : Rat) : Prop := ∃ t0 t1 : Rat, 0 ≤ t0 ∧ t0 * t0 ≤ q ∧ q < t1 * t1 ∧ (t1 - t0) * ((2 ^ 53 : Nat) : Rat) ≤ t0 ∧ t0 < t1 ∧ ∀ t, t0 ≤ t → t < t1 → (t * t = q ∨ t0 * t0 ≠ q) → RN z t

theorem sqrt_zero {x : Nat} (h : V x 0) : ∃ z, D.sqrt x = some z ∧ V z 0 := by
  obtain ⟨s, m, i, e, h0⟩ := h
  have hm : m = 0 := by
    by_cases hm : m = 0
    · exact hm
    · exfalso
      have : (0 : Rat) < (m : Rat) * p2 i := Rat.mul_pos (Rat.natCast_pos.2 (by omega)) (p2_pos i)
      rw [dv_sign] at h0
      cases s <;> simp at h0 <;> grind
  subst hm
  unfold Format.sqrt
  rw [e]
  refine ⟨_, by simp only [Datum.root, if_pos]; rfl, ?_⟩
  have : D.write (.number s 0 i) = D.word s 0 := by simp [Format.write, Format.nearest]
  rw [this]; exact V_zero s

theorem sqrt_V {x : Nat} {a : Rat} (hx : V x a) (ha : 0 < a) : ∃ z, D.sqrt x = some z ∧ RS z a := by
  obtain ⟨s, m, i, e, rfl⟩ := hx
  have hm : m ≠ 0 := by rintro rfl; cases s <;> simp [dv] at ha
  have hs : s = false := by
    cases s
    · rfl
    · exfalso
      have : (0 : Rat) ≤ (m : Rat) * p2 i := Rat.mul_nonneg Rat.natCast_nonneg (Rat.le_of_lt (p2_pos i))
      rw [dv_sign] at ha; simp at ha; grind
  subst hs
  unfold Format.sqrt
  rw [e]
  simp only [Datum.root, if_neg hm, Bool.false_eq_true, if_false, D_frac, Option.map_some, Format.write]
  generalize hmore : 2 * (52 + 2) - m.log2 + ((i - (2 * (52 + 2) - m.log2 : Nat)) % 2).toNat = more
  refine ⟨_, rfl, ?_⟩
  have heven : (i - (more : Int)) % 2 = 0 := by omega
  have hmore2 : 108 ≤ m.log2 + more := by omega
  obtain ⟨h, hh⟩ : ∃ h : Int, i - more = 2 * h := ⟨(i - more) / 2, by omega⟩
  have hpl : (i - (more : Int)) / 2 - 1 = h - 1 := by omega
  rw [hpl]
  generalize hn : m <<< more = n
  have hn' : n = m * 2 ^ more := by rw [← hn, Nat.shiftLeft_eq]
  have l1 : 2 ^ m.log2 ≤ m := Nat.log2_self_le hm
  have hnbig : 2 ^ 108 ≤ n := by
    rw [hn']
    have h1 : 2 ^ m.log2 * 2 ^ more ≤ m * 2 ^ more := Nat.mul_le_mul_right _ l1
    rw [← Nat.pow_add] at h1
    have h2 : 2 ^ 108 ≤ 2 ^ (m.log2 + more) := Nat.pow_le_pow_right (by omega) hmore2
    omega
  have hr := rootFrom_spec n (n.log2 / 2 + 1) 0 (by omega) (by
    have h1 := Nat.lt_log2_self (n := n)
    rw [Nat.zero_add]
    exact Nat.lt_of_lt_of_le h1 (by rw [← Nat.pow_add]; exact Nat.pow_le_pow_right (by omega) (by omega)))
  generalize Datum.rootFrom n (n.log2 / 2 + 1) 0 = R at *
  obtain ⟨r1, r2⟩ := hr
  have hR : 2 ^ 54 ≤ R := by
    by_cases hc : 2 ^ 54 ≤ R
    · exact hc
    · exfalso
      have : (R + 1) * (R + 1) ≤ 2 ^ 54 * 2 ^ 54 := Nat.mul_le_mul (by omega) (by omega)
      have : 2 ^ 54 * 2 ^ 54 = 2 ^ 108 := by decide
      omega
  have hw := p2_pos h
  have hw1 := p2_pos (h - 1)
  have e1 : p2 h = 2 * p2 (h - 1) := by rw [← p2_one, ← p2_add]; congr 1; omega
  -- the value is n units of 2 ^ (2 h)
  have hval : dv (.number false m i) = (n : Rat) * (p2 h * p2 h) := by
    rw [dv_sign, hn']
    simp only [Bool.false_eq_true, if_false]
    rw [Rat.natCast_mul, ← p2_nat, ← p2_add, Rat.mul_assoc, ← p2_add]
    congr 2; omega
  rw [hval]
  have hsq : (0 : Rat) < p2 h * p2 h := Rat.mul_pos hw hw
  have c1 : (R : Rat) * (R : Rat) ≤ (n : Rat) := by rw [← Rat.natCast_mul]; exact natR_le r1
  have c2 : (n : Rat) < ((R : Rat) + 1) * ((R : Rat) + 1) := by
    have := Rat.natCast_lt_natCast.2 r2
    rw [Rat.natCast_mul, Rat.natCast_add] at this; exact this
  have two : ((2 : Nat) : Rat) = 2 := rfl
  refine ⟨(R : Rat) * p2 h, ((R : Rat) + 1) * p2 h, Rat.mul_nonneg Rat.natCast_nonneg (Rat.le_of_lt hw), ?_, ?_, ?_, ?_, ?_⟩
  · have := Rat.mul_le_mul_of_nonneg_right c1 (Rat.le_of_lt hsq); grind
  · have := Rat.mul_lt_mul_of_pos_right c2 hsq; grind
  · have h1 : ((2 ^ 53 : Nat) : Rat) ≤ (R : Rat) := natR_le (by omega)
    have := Rat.mul_le_mul_of_nonneg_right h1 (Rat.le_of_lt hw); grind
  · have : (0 : Rat) < p2 h := hw
    grind
  · intro t ht1 ht2 hor
    have ht0 : 0 < t := by
      have : (0 : Rat) < (R : Rat) * p2 h := Rat.mul_pos (Rat.natCast_pos.2 (by omega)) hw
      grind
    by_cases hx : R * R = n
    · have hxr : (n : Rat) = (R : Rat) * (R : Rat) := by rw [← hx, Rat.natCast_mul]
      have ht : t = (R : Rat) * p2 h := by
        rcases hor with h1 | h1
        · -- t * t = (R p)^2, t ≥ R p
          by_cases hlt : (R : Rat) * p2 h < t
          · exfalso
            have hp : (0 : Rat) ≤ (R : Rat) * p2 h := Rat.mul_nonneg Rat.natCast_nonneg (Rat.le_of_lt hw)
            have h2 : ((R : Rat) * p2 h) * ((R : Rat) * p2 h) ≤ ((R : Rat) * p2 h) * t := Rat.mul_le_mul_of_nonneg_left ht1 hp
            have h3 : ((R : Rat) * p2 h) * t < t * t := Rat.mul_lt_mul_of_pos_right hlt ht0
            rw [hxr] at h1
            grind
          · grind
        · exfalso; apply h1; rw [hxr]; grind
      have hb : (R * R != n) = false := by simp [hx]
      rw [hb, ht]
      have := write_RN false (2 * R + false.toNat) (h - 1)
      have e3 : dv (.number false (2 * R + false.toNat) (h - 1)) = (R : Rat) * p2 h := by
        rw [dv_sign, e1]; simp only [Bool.false_eq_true, if_false, Bool.toNat_false, Nat.add_zero]
        rw [Rat.natCast_mul, two]; grind
      rw [e3] at this; exact this
    · have hb : (R * R != n) = true := by simp [hx]
      rw [hb]
      simp only [Bool.toNat_true]
      obtain ⟨kept, k, hk, e2⟩ := nearest_rnd false (2 * R + 1) (h - 1) (by omega)
      refine ⟨false, Or.inr ⟨kept, k, ?_, e2⟩⟩
      simp only [Bool.false_eq_true, if_false]
      refine hk.sticky (by omega) ?_ ?_
      · rw [Rat.natCast_mul, two]; rw [e1] at ht1; grind
      · rw [Rat.natCast_add, Rat.natCast_mul, two]; rw [e1] at ht2; grind

theorem sq_le {a b : Rat} (_ : 0 ≤ a) (hb : 0 ≤ b) (h : a * a ≤ b * b) : a ≤ b := by
  by_cases hc : a ≤ b
  · exact hc
  · exfalso
    have h1 : b < a := Rat.not_le.1 hc
    have h2 : b * b ≤ b * a := Rat.mul_le_mul_of_nonneg_left (Rat.le_of_lt h1) hb
    have h3 : b * a < a * a := Rat.mul_lt_mul_of_pos_right h1 (by grind)
    grind
theorem sq_lt {a b : Rat} (hb : 0 ≤ b) (h : a * a < b * b) : a < b := by
  by_cases hc : a < b
  · exact hc
  · exfalso
    have h1 : b ≤ a := Rat.not_lt.1 hc
    have h2 : b * b ≤ b * a := Rat.mul_le_mul_of_nonneg_left h1 hb
    have h3 : b * a ≤ a * a := Rat.mul_le_mul_of_nonneg_right h1 (by grind)
    grind

/-- the root of a square of a number that the format has is that number -/
theorem RS.exact {z : Nat} {s : Rat} (h : RS z (s * s)) (hs : 0 ≤ s) (hr : Rep s) (h1 : s ≤ p2 1023) : V z s := by
  obtain ⟨t0, t1, a1, a2, a3, _, a5, a6⟩ := h
  have b1 : t0 ≤ s := sq_le a1 hs a2
  have b2 : s < t1 := sq_lt (by grind) a3
  exact (a6 s b1 b2 (Or.inl rfl)).exact hr h1 (by have := p2_pos 1023; grind)
end Fl
namespace Fl
open Ieee Go

theorem V_half : V 4602678819172646912 (p2 (-1)) := by
  refine ⟨false, 4503599627370496, -53, by decide +kernel, ?_⟩
  rw [dv_sign, show (4503599627370496 : Nat) = 2 ^ 52 from by decide, ← p2_nat]
  simp only [Bool.false_eq_true, if_false]
  rw [← p2_add]; rfl
theorem V_two : V 4611686018427387904 (p2 1) := by
  refine ⟨false, 4503599627370496, -51, by decide +kernel, ?_⟩
  rw [dv_sign, show (4503599627370496 : Nat) = 2 ^ 52 from by decide, ← p2_nat]
  simp only [Bool.false_eq_true, if_false]
  rw [← p2_add]; rfl

theorem rep_scaled (n : Int) (e : Int) (h : n.natAbs ≤ 2 ^ 53) (he : -1074 ≤ e) : Rep ((n : Rat) * p2 e) := ⟨decide (n < 0), n.natAbs, e, h, he, by rw [natAbs_val]⟩

theorem scaled_small (n : Int) (e : Int) (h : n.natAbs ≤ 2 ^ 53) (he : e ≤ 970) : (n : Rat) * p2 e ≤ p2 1023 ∧ -((n : Rat) * p2 e) ≤ p2 1023 := by
  have h1 : ((2 ^ 53 : Nat) : Rat) * p2 e ≤ p2 1023 := by rw [← p2_nat, ← p2_add]; exact p2_mono (by omega)
  have h2 : (n : Rat) ≤ ((2 ^ 53 : Nat) : Rat) := by
    rw [← Rat.intCast_natCast]; exact Rat.intCast_le_intCast.2 (by omega)
  have h3 : -(n : Rat) ≤ ((2 ^ 53 : Nat) : Rat) := by
    rw [← Rat.intCast_neg, ← Rat.intCast_natCast]; exact Rat.intCast_le_intCast.2 (by omega)
  have hp := Rat.le_of_lt (p2_pos e)
  have h4 := Rat.mul_le_mul_of_nonneg_right h2 hp
  have h5 := Rat.mul_le_mul_of_nonneg_right h3 hp
  constructor <;> grind

theorem half_I {s : Nat} {n : Int} (h : IsI s n) (hn : n.natAbs ≤ 2 ^ 53) : ∃ c, floatBits .mul .f64 4602678819172646912 s = some c ∧ V c ((n : Rat) * p2 (-1)) := by
  obtain ⟨c, e, hc⟩ := mul_V V_half h
  rw [Rat.mul_comm] at hc
  exact ⟨c, e, hc.exact (rep_scaled n (-1) hn (by decide)) (scaled_small n (-1) hn (by decide)).1 (scaled_small n (-1) hn (by decide)).2⟩
theorem halved_I {s : Nat} {n : Int} (h : IsI s n) (hn : n.natAbs ≤ 2 ^ 53) : ∃ c, floatBits .quo .f64 s 4611686018427387904 = some c ∧ V c ((n : Rat) * p2 (-1)) := by
  obtain ⟨c, e, hc⟩ := div_V h V_two (p2_ne 1)
  have : (n : Rat) / p2 1 = (n : Rat) * p2 (-1) := by
    have h1 : p2 1 * p2 (-1) = 1 := by rw [← p2_add, ← p2_zero]; rfl
    have h2 := p2_ne 1
    have h3 : (n : Rat) / p2 1 * p2 1 = n := Rat.div_mul_cancel h2
    grind
  rw [this] at hc
  exact ⟨c, e, hc.exact (rep_scaled n (-1) hn (by decide)) (scaled_small n (-1) hn (by decide)).1 (scaled_small n (-1) hn (by decide)).2⟩
theorem eqV {x y : Nat} {q : Rat} (hx : V x q) (hy : V y q) : (FloatKind.f64.format.order x y == some .eq) = true := by rw [eq_V hx hy]; simp
end Fl
