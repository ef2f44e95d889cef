import Ieee.Arith
namespace Fl
open Ieee

/-! powers of two over Rat -/
def p2 (e : Int) : Rat := (2 : Rat) ^ e

theorem p2_pos (e : Int) : 0 < p2 e := Rat.zpow_pos (by decide)
theorem p2_ne (e : Int) : p2 e ≠ 0 := Rat.ne_of_gt (p2_pos e)
theorem p2_add (a b : Int) : p2 (a + b) = p2 a * p2 b := Rat.zpow_add (by decide) a b
theorem p2_zero : p2 0 = 1 := by unfold p2; rfl
theorem p2_one : p2 1 = 2 := by unfold p2; rfl
theorem p2_nat (n : Nat) : p2 (n : Int) = ((2 ^ n : Nat) : Rat) := by
  induction n with
  | zero => simp [p2_zero]
  | succ n ih => rw [Int.natCast_succ, p2_add, ih, p2_one, Nat.pow_succ]; simp [Rat.natCast_mul]
theorem p2_toNat {e : Int} (h : 0 ≤ e) : p2 e = ((2 ^ e.toNat : Nat) : Rat) := by
  obtain ⟨n, rfl⟩ := Int.eq_ofNat_of_zero_le h; simpa using p2_nat n
theorem p2_split (a b : Int) : p2 a = p2 (a - b) * p2 b := by rw [← p2_add]; congr 1; omega
theorem p2_mono {a b : Int} (h : a ≤ b) : p2 a ≤ p2 b := by
  have e : p2 b = p2 (b - a) * p2 a := p2_split b a
  have h1 : (1 : Rat) ≤ p2 (b - a) := by
    rw [p2_toNat (by omega)]
    exact Rat.natCast_le_natCast.2 (Nat.one_le_two_pow)
  have := Rat.mul_le_mul_of_nonneg_right h1 (Rat.le_of_lt (p2_pos a))
  rw [e]; simpa using this

attribute [irreducible] p2

/-! rounding to a whole number -/
theorem cut_even (neg : Bool) (n drop : Nat) :
    2 * (Toward.even.cut neg n drop * 2 ^ drop) ≤ 2 * n + 2 ^ drop ∧ 2 * n ≤ 2 * (Toward.even.cut neg n drop * 2 ^ drop) + 2 ^ drop := by
  unfold Toward.cut
  simp only []
  by_cases hd : drop ≤ n.log2 + 2
  · rw [Nat.min_eq_left hd, Nat.shiftLeft_eq, Nat.one_mul]
    have hg : 0 < 2 ^ drop := Nat.two_pow_pos _
    generalize hG : 2 ^ drop = g at *
    have h1 := Nat.div_add_mod n g
    have h2 := Nat.mod_lt n hg
    generalize n / g = q at *
    generalize n % g = r at *
    have hc : g * q = q * g := Nat.mul_comm ..
    by_cases hm : (decide (g < 2 * r) || g == 2 * r && q % 2 == 1) = true
    · rw [hm]
      simp only [Bool.or_eq_true, decide_eq_true_eq, Bool.and_eq_true, beq_iff_eq] at hm
      simp only [Bool.toNat_true, Nat.add_mul]
      omega
    · have hm' : (decide (g < 2 * r) || g == 2 * r && q % 2 == 1) = false := by simpa using hm
      rw [hm']
      have : 2 * r ≤ g := by
        by_cases h : g < 2 * r
        · simp [h] at hm
        · omega
      simp only [Bool.toNat_false, Nat.add_zero]
      omega
  · have hd' : n.log2 + 2 < drop := by omega
    rw [Nat.min_eq_right (by omega), Nat.shiftLeft_eq, Nat.one_mul]
    have hl := Nat.lt_log2_self (n := n)
    have h4 : 2 ^ (n.log2 + 2) = 2 * 2 ^ (n.log2 + 1) := by rw [Nat.pow_succ 2 (n.log2 + 1)]; omega
    have hlt : n < 2 ^ (n.log2 + 2) := by omega
    rw [Nat.div_eq_of_lt hlt, Nat.mod_eq_of_lt hlt]
    have hm : (decide (2 ^ (n.log2 + 2) < 2 * n) || 2 ^ (n.log2 + 2) == 2 * n && 0 % 2 == 1) = false := by simp; omega
    rw [hm]
    have hp : 2 ^ (n.log2 + 2) ≤ 2 ^ drop := Nat.pow_le_pow_right (by omega) (by omega)
    simp
    omega


theorem cut_exact (neg : Bool) (k drop : Nat) : Toward.even.cut neg (k * 2 ^ drop) drop = k := by
  have h := cut_even neg (k * 2 ^ drop) drop
  have hg : 0 < 2 ^ drop := Nat.two_pow_pos _
  generalize Toward.even.cut neg (k * 2 ^ drop) drop = r at *
  generalize 2 ^ drop = g at *
  by_cases h1 : r < k
  · have h2 : (r + 1) * g ≤ k * g := Nat.mul_le_mul_right g (by omega)
    have h3 : (r + 1) * g = r * g + g := by rw [Nat.add_mul]; omega
    omega
  · by_cases h4 : k < r
    · have h2 : (k + 1) * g ≤ r * g := Nat.mul_le_mul_right g (by omega)
      have h3 : (k + 1) * g = k * g + g := by rw [Nat.add_mul]; omega
      omega
    · omega

/-! reading a word -/
abbrev D : Format := Ieee.double
theorem D_sw : D.signWeight = 2 ^ 63 := rfl
theorem D_bin : D.binade = 2 ^ 52 := rfl
theorem D_inf : D.infRung = 2047 * 2 ^ 52 := rfl
theorem D_least : D.leastPlace = -1074 := by decide
theorem D_frac : D.fractionBits = 52 := rfl
theorem D_width : D.width = 64 := rfl

/-- the value of a datum -/
def dv : Datum → Rat
  | .number s m p => (if s then -(m : Rat) else (m : Rat)) * p2 p
  | _ => 0

theorem read_word (neg : Bool) (r : Nat) (h : r < 2047 * 2 ^ 52) :
    D.read (D.word neg r) = if r < 2 ^ 52 then .number neg r (-1074) else .number neg (2 ^ 52 + r % 2 ^ 52) (-1074 + (r / 2 ^ 52 - 1 : Nat)) := by
  unfold Format.read Format.word
  rw [D_sw, D_bin, D_inf, D_least]
  have e1 : (if neg = true then 2 ^ 63 + r else r) % 2 ^ 63 = r := by cases neg <;> simp <;> omega
  have e2 : ((if neg = true then 2 ^ 63 + r else r) / 2 ^ 63 % 2 == 1) = neg := by
    cases neg
    · have : r / 2 ^ 63 = 0 := by omega
      simp [this]
    · have : (2 ^ 63 + r) / 2 ^ 63 = 1 := by omega
      simp [this]
  simp only [e1, e2]
  rw [if_pos h]

/-- the rung of 'kept' units of place '-1074 + k' -/
theorem read_rung (neg : Bool) (k kept : Nat) (h0 : kept ≤ 2 ^ 53) (h1 : 2 ^ 52 ≤ kept ∨ k = 0) (h2 : k * 2 ^ 52 + kept < 2047 * 2 ^ 52) :
    ∃ m p, D.read (D.word neg (k * 2 ^ 52 + kept)) = .number neg m p ∧ (m : Rat) * p2 p = (kept : Rat) * p2 (-1074 + k) ∧ (m = 0 ↔ kept = 0) := by
  rw [read_word neg _ h2]
  by_cases hs : kept < 2 ^ 52
  · have hk : k = 0 := by omega
    subst hk
    refine ⟨kept, -1074, ?_, by simp, Iff.rfl⟩
    rw [if_pos (by omega)]; simp
  · by_cases he : kept = 2 ^ 53
    · subst he
      refine ⟨2 ^ 52, -1074 + ((k + 1 : Nat) : Int), ?_, ?_, by simp⟩
      · rw [if_neg (by omega)]
        have e1 : (k * 2 ^ 52 + 2 ^ 53) % 2 ^ 52 = 0 := by omega
        have e2 : (k * 2 ^ 52 + 2 ^ 53) / 2 ^ 52 - 1 = k + 1 := by omega
        rw [e1, e2]
      · have : (-1074 + ((k + 1 : Nat) : Int)) = 1 + (-1074 + (k : Int)) := by omega
        rw [this, p2_add, p2_one, ← Rat.mul_assoc]
        congr 1
        rw [show (2 : Rat) = ((2 : Nat) : Rat) from rfl, ← Rat.natCast_mul]
    · refine ⟨kept, -1074 + k, ?_, rfl, Iff.rfl⟩
      rw [if_neg (by omega)]
      have e1 : 2 ^ 52 + (k * 2 ^ 52 + kept) % 2 ^ 52 = kept := by omega
      have e2 : (k * 2 ^ 52 + kept) / 2 ^ 52 - 1 = k := by omega
      rw [e1, e2]

/-- 'kept' units of the place '-1074 + k' are 'q' (above 0), rounded. -/
structure Rnd (q : Rat) (kept k : Nat) : Prop where
  pos : 0 < q
  lo : (kept : Rat) * p2 (-1074 + k) * 2 ≤ q * 2 + p2 (-1074 + k)
  hi : q * 2 ≤ (kept : Rat) * p2 (-1074 + k) * 2 + p2 (-1074 + k)
  low : k = 0 ∨ ((2 ^ 52 : Nat) : Rat) * p2 (-1074 + k) ≤ q
  top : q < ((2 ^ 53 : Nat) : Rat) * p2 (-1074 + k)
  le : kept ≤ 2 ^ 53
  ge : 2 ^ 52 ≤ kept ∨ k = 0

theorem natR_le {a b : Nat} (h : a ≤ b) : (a : Rat) ≤ (b : Rat) := Rat.natCast_le_natCast.2 h

theorem nearest_rnd (neg : Bool) (mag : Nat) (place : Int) (hm : mag ≠ 0) :
    ∃ kept k, Rnd ((mag : Rat) * p2 place) kept k ∧ D.nearest neg mag place = D.word neg (min (k * 2 ^ 52 + kept) (2047 * 2 ^ 52)) := by
  unfold Format.nearest
  rw [if_neg hm, D_least, D_frac, D_bin, D_inf]
  simp only []
  generalize hL : mag.log2 = L
  have l1 : 2 ^ L ≤ mag := by rw [← hL]; exact Nat.log2_self_le hm
  have l2 : mag < 2 ^ (L + 1) := by rw [← hL]; exact Nat.lt_log2_self
  generalize hl : max (place + (L : Int) - 52) (-1074) = last
  have hlast : -1074 ≤ last := by omega
  obtain ⟨k, hk⟩ := Int.eq_ofNat_of_zero_le (show 0 ≤ last + 1074 by omega)
  have hk' : last = -1074 + (k : Int) := by omega
  have e1 : (last - -1074).toNat = k := by omega
  rw [e1]
  generalize hn : mag <<< (place - last).toNat = n
  generalize hd : (last - place).toNat = d
  generalize hK : Toward.even.cut neg n d = kept
  have hcut := cut_even neg n d
  rw [hK] at hcut
  -- n * 2 ^ -d * 2 ^ last = q
  have hq : (mag : Rat) * p2 place * p2 d = (n : Rat) * p2 last := by
    rw [← hn, Nat.shiftLeft_eq]
    by_cases h : place ≤ last
    · have : (place - last).toNat = 0 := by omega
      rw [this, Rat.mul_assoc, ← p2_add]
      have : place + (d : Int) = last := by omega
      rw [this]; simp
    · have hd0 : d = 0 := by omega
      have : place = ((place - last).toNat : Int) + last := by omega
      rw [hd0, Rat.natCast_mul, ← p2_nat, Rat.mul_assoc, Rat.mul_assoc, ← p2_add, ← p2_add]
      congr 2
      omega
  have hdp := p2_pos (d : Int)
  have hlp := p2_pos last
  have hdn : p2 (d : Int) = ((2 ^ d : Nat) : Rat) := p2_nat d
  -- size of n
  have ntop : n < 2 ^ 53 * 2 ^ d := by
    rw [← hn, Nat.shiftLeft_eq]
    by_cases h : place ≤ last
    · have z : (place - last).toNat = 0 := by omega
      rw [z, ← Nat.pow_add]
      have : 2 ^ (L + 1) ≤ 2 ^ (53 + d) := Nat.pow_le_pow_right (by omega) (by omega)
      omega
    · have hd0 : d = 0 := by omega
      rw [hd0]
      have h1 : mag * 2 ^ (place - last).toNat < 2 ^ (L + 1) * 2 ^ (place - last).toNat := Nat.mul_lt_mul_of_pos_right l2 (Nat.two_pow_pos _)
      rw [← Nat.pow_add] at h1
      have : 2 ^ (L + 1 + (place - last).toNat) ≤ 2 ^ 53 := Nat.pow_le_pow_right (by omega) (by omega)
      omega
  have nlow : 2 ^ 52 * 2 ^ d ≤ n ∨ k = 0 := by
    by_cases hk0 : k = 0
    · exact Or.inr hk0
    left
    have hlm : last = place + L - 52 := by omega
    rw [← hn, Nat.shiftLeft_eq, ← Nat.pow_add]
    have h1 : 2 ^ L * 2 ^ (place - last).toNat ≤ mag * 2 ^ (place - last).toNat := Nat.mul_le_mul_right _ l1
    rw [← Nat.pow_add] at h1
    have : 2 ^ (52 + d) ≤ 2 ^ (L + (place - last).toNat) := Nat.pow_le_pow_right (by omega) (by omega)
    omega
  have hg : 0 < 2 ^ d := Nat.two_pow_pos _
  refine ⟨kept, k, ⟨Rat.mul_pos (Rat.natCast_pos.2 (by omega)) (p2_pos _), ?_, ?_, ?_, ?_, ?_, ?_⟩, rfl⟩
  · rw [← hk']
    have h := natR_le hcut.1
    simp only [Rat.natCast_mul, Rat.natCast_add, ← hdn] at h
    refine Rat.le_of_mul_le_mul_right (c := p2 d) ?_ hdp
    have h2 := Rat.mul_le_mul_of_nonneg_right h (Rat.le_of_lt hlp)
    have e := congrArg (· * 2) hq
    grind
  · rw [← hk']
    have h := natR_le hcut.2
    simp only [Rat.natCast_mul, Rat.natCast_add, ← hdn] at h
    refine Rat.le_of_mul_le_mul_right (c := p2 d) ?_ hdp
    have h2 := Rat.mul_le_mul_of_nonneg_right h (Rat.le_of_lt hlp)
    have e := congrArg (· * 2) hq
    grind
  · rw [← hk']
    rcases nlow with h | h
    · right
      have h := natR_le h
      rw [Rat.natCast_mul, ← hdn] at h
      refine Rat.le_of_mul_le_mul_right (c := p2 d) ?_ hdp
      have h2 := Rat.mul_le_mul_of_nonneg_right h (Rat.le_of_lt hlp)
      grind
    · exact Or.inl h
  · rw [← hk']
    have h : (n : Rat) < ((2 ^ 53 * 2 ^ d : Nat) : Rat) := Rat.natCast_lt_natCast.2 ntop
    rw [Rat.natCast_mul, ← hdn] at h
    refine Rat.lt_of_mul_lt_mul_right (c := p2 d) ?_ (Rat.le_of_lt hdp)
    have h2 := Rat.mul_lt_mul_of_pos_right h hlp
    grind
  · generalize 2 ^ d = g at *
    have : kept * g < (2 ^ 53 + 1) * g := by omega
    have := Nat.lt_of_mul_lt_mul_right this
    omega
  · rcases nlow with h | h
    · left
      generalize 2 ^ d = g at *
      have : (2 ^ 52) * g < (kept + 1) * g := by rw [Nat.add_mul]; omega
      have := Nat.lt_of_mul_lt_mul_right this
      omega
    · exact Or.inr h

/-! what a word stands for -/

/-- 'x' is a finite number, the number 'q' -/
def V (x : Nat) (q : Rat) : Prop := ∃ s m p, D.read x = .number s m p ∧ dv (.number s m p) = q

/-- 'z' is 'q' rounded -/
def RN (z : Nat) (q : Rat) : Prop :=
  ∃ neg, (q = 0 ∧ z = D.word neg 0) ∨ ∃ kept k, Rnd (if neg then -q else q) kept k ∧ z = D.word neg (min (k * 2 ^ 52 + kept) (2047 * 2 ^ 52))

theorem V_det {x : Nat} {a b : Rat} (h : V x a) (h' : V x b) : a = b := by
  obtain ⟨s, m, p, e, rfl⟩ := h
  obtain ⟨s', m', p', e', rfl⟩ := h'
  rw [e] at e'; cases e'; rfl

theorem write_RN (s : Bool) (m : Nat) (p : Int) : RN (D.write (.number s m p)) (dv (.number s m p)) := by
  refine ⟨s, ?_⟩
  by_cases hm : m = 0
  · left
    subst hm
    refine ⟨?_, ?_⟩
    · cases s <;> simp [dv]
    · simp [Format.write, Format.nearest]
  · right
    obtain ⟨kept, k, h, e⟩ := nearest_rnd s m p hm
    refine ⟨kept, k, ?_, e⟩
    have : (if s = true then -dv (.number s m p) else dv (.number s m p)) = (m : Rat) * p2 p := by
      cases s <;> simp [dv] <;> grind
    rw [this]; exact h

theorem read_zero (neg : Bool) : D.read (D.word neg 0) = .number neg 0 (-1074) := by
  rw [read_word neg 0 (by decide), if_pos (by decide)]
theorem V_zero (neg : Bool) : V (D.word neg 0) 0 := ⟨neg, 0, -1074, read_zero neg, by cases neg <;> simp [dv]⟩

theorem p2_step (k : Nat) : p2 (-1074 + ((k + 1 : Nat) : Int)) = 2 * p2 (-1074 + (k : Int)) := by
  rw [show (-1074 + ((k + 1 : Nat) : Int)) = 1 + (-1074 + (k : Int)) by omega, p2_add, p2_one]

/-- not too great: no infinity comes of it -/
theorem Rnd.small {q : Rat} {kept k : Nat} (h : Rnd q kept k) (hq : q ≤ p2 1023) : k * 2 ^ 52 + kept < 2047 * 2 ^ 52 := by
  have hk : k ≤ 2045 := by
    rcases h.low with h0 | h0
    · omega
    · by_cases hk : k ≤ 2045
      · exact hk
      · exfalso
        have h1 : p2 1024 ≤ ((2 ^ 52 : Nat) : Rat) * p2 (-1074 + k) := by
          rw [← p2_nat, ← p2_add]; exact p2_mono (by omega)
        have h2 : p2 1024 = 2 * p2 1023 := by rw [← p2_one, ← p2_add]; rfl
        have h3 := p2_pos 1023
        grind
  have h1 := h.le
  by_cases hk' : k = 2045
  · -- kept is 2 ^ 52 at most there, being at most 2 ^ 1023
    have hlo := h.lo
    subst hk'
    have e1 : p2 1023 = ((2 ^ 52 : Nat) : Rat) * p2 (-1074 + (2045 : Nat)) := by rw [← p2_nat, ← p2_add]; rfl
    have hu := p2_pos (-1074 + (2045 : Nat))
    have h3 : (kept : Rat) * p2 (-1074 + (2045 : Nat)) * 2 ≤ (((2 ^ 52 : Nat) : Rat) * 2 + 1) * p2 (-1074 + (2045 : Nat)) := by grind
    have h4 : ((kept : Rat) * 2) * p2 (-1074 + (2045 : Nat)) ≤ (((2 ^ 52 : Nat) : Rat) * 2 + 1) * p2 (-1074 + (2045 : Nat)) := by grind
    have h5 := Rat.le_of_mul_le_mul_right h4 hu
    have h6 : ((kept * 2 : Nat) : Rat) ≤ ((2 ^ 52 * 2 + 1 : Nat) : Rat) := by
      rw [Rat.natCast_mul, Rat.natCast_add, Rat.natCast_mul]; exact h5
    have := Rat.natCast_le_natCast.1 h6
    omega
  · omega

theorem neg_cases (neg : Bool) (a : Rat) : (if neg then -(if neg then -a else a) else (if neg then -a else a)) = a := by cases neg <;> simp

/-- rounding: finite, and near -/
theorem RN.near {z : Nat} {q : Rat} (h : RN z q) (h1 : q ≤ p2 1023) (h2 : -q ≤ p2 1023) :
    ∃ r, V z r ∧ (∃ u, 0 < u ∧ (r - q) * 2 ≤ u ∧ (q - r) * 2 ≤ u ∧ (u = p2 (-1074) ∨ ((2 ^ 52 : Nat) : Rat) * u ≤ q ∨ ((2 ^ 52 : Nat) : Rat) * u ≤ -q)) := by
  obtain ⟨neg, ⟨rfl, rfl⟩ | ⟨kept, k, h, rfl⟩⟩ := h
  · exact ⟨0, V_zero neg, p2 (-1074), p2_pos _, by have := p2_pos (-1074); grind, by have := p2_pos (-1074); grind, Or.inl rfl⟩
  · have hs := h.small (by cases neg <;> simpa)
    rw [Nat.min_eq_left (by omega)]
    obtain ⟨m, p, e, hv, _⟩ := read_rung neg k kept h.le h.ge hs
    refine ⟨_, ⟨neg, m, p, e, rfl⟩, p2 (-1074 + k), p2_pos _, ?_, ?_, ?_⟩
    · have := h.lo; have := h.hi
      cases neg <;> simp [dv] at * <;> grind
    · have := h.lo; have := h.hi
      cases neg <;> simp [dv] at * <;> grind
    · rcases h.low with h0 | h0
      · subst h0; left; rfl
      · right; cases neg <;> simp at h0
        · exact Or.inl h0
        · exact Or.inr h0

/-- a number that the format has -/
def Rep (q : Rat) : Prop := ∃ (neg : Bool) (m : Nat) (e : Int), m ≤ 2 ^ 53 ∧ -1074 ≤ e ∧ q = (if neg then -(m : Rat) else (m : Rat)) * p2 e

theorem Rnd.exact {m : Nat} {e : Int} {kept k : Nat} (h : Rnd ((m : Rat) * p2 e) kept k) (hm : m ≤ 2 ^ 53) (he : -1074 ≤ e) :
    (kept : Rat) * p2 (-1074 + k) = (m : Rat) * p2 e := by
  have hu := p2_pos (-1074 + (k : Int))
  -- the number is N units
  have ⟨N, hN⟩ : ∃ N : Nat, (m : Rat) * p2 e = (N : Rat) * p2 (-1074 + k) := by
    by_cases hek : -1074 + (k : Int) ≤ e
    · refine ⟨m * 2 ^ (e - (-1074 + k)).toNat, ?_⟩
      rw [Rat.natCast_mul, ← p2_nat, Rat.mul_assoc, ← p2_add]
      congr 2; omega
    · refine ⟨2 ^ 52, ?_⟩
      have hk0 : k ≠ 0 := by omega
      have hlow := h.low.resolve_left hk0
      refine Rat.le_antisymm ?_ hlow
      have h1 : (m : Rat) ≤ ((2 ^ 53 : Nat) : Rat) := natR_le hm
      have h2 := Rat.mul_le_mul_of_nonneg_right h1 (Rat.le_of_lt (p2_pos e))
      have h3 : ((2 ^ 53 : Nat) : Rat) * p2 e ≤ ((2 ^ 52 : Nat) : Rat) * p2 (-1074 + k) := by
        rw [← p2_nat, ← p2_nat, ← p2_add, ← p2_add]; exact p2_mono (by omega)
      exact Rat.le_trans h2 h3
  rw [hN]
  have hlo := h.lo
  have hhi := h.hi
  rw [hN] at hlo hhi
  have a1 : ((kept * 2 : Nat) : Rat) ≤ ((N * 2 + 1 : Nat) : Rat) := by
    rw [Rat.natCast_add, Rat.natCast_mul, Rat.natCast_mul]
    refine Rat.le_of_mul_le_mul_right (c := p2 (-1074 + k)) ?_ hu
    simp
    grind
  have a2 : ((N * 2 : Nat) : Rat) ≤ ((kept * 2 + 1 : Nat) : Rat) := by
    rw [Rat.natCast_add, Rat.natCast_mul, Rat.natCast_mul]
    refine Rat.le_of_mul_le_mul_right (c := p2 (-1074 + k)) ?_ hu
    simp
    grind
  have b1 := Rat.natCast_le_natCast.1 a1
  have b2 := Rat.natCast_le_natCast.1 a2
  have : kept = N := by omega
  rw [this]

theorem RN.exact {z : Nat} {q : Rat} (h : RN z q) (hr : Rep q) (h1 : q ≤ p2 1023) (h2 : -q ≤ p2 1023) : V z q := by
  obtain ⟨neg, ⟨rfl, rfl⟩ | ⟨kept, k, h, rfl⟩⟩ := h
  · exact V_zero neg
  · obtain ⟨n', m, e, hm, he, rfl⟩ := hr
    have hs := h.small (by cases neg <;> simpa)
    rw [Nat.min_eq_left (by omega)]
    obtain ⟨m', p, e', hv, _⟩ := read_rung neg k kept h.le h.ge hs
    refine ⟨neg, m', p, e', ?_⟩
    have hp := h.pos
    have hmm : (0 : Rat) ≤ (m : Rat) * p2 e := Rat.mul_nonneg Rat.natCast_nonneg (Rat.le_of_lt (p2_pos e))
    have hnn : neg = n' := by
      cases neg <;> cases n' <;> simp at hp ⊢
      · grind
      · grind
    subst hnn
    have hx : Rnd ((m : Rat) * p2 e) kept k := by
      cases neg
      · simpa using h
      · have : (if true = true then -((if true = true then -(m : Rat) else (m : Rat)) * p2 e) else (if true = true then -(m : Rat) else (m : Rat)) * p2 e) = (m : Rat) * p2 e := by simp; grind
        rwa [this] at h
    have hx := hx.exact hm he
    cases neg <;> simp [dv] <;> grind
end Fl
