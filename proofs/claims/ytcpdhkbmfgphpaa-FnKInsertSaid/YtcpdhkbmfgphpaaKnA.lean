import Derived.Test.YtcpdhkbmfgphpaaKdR
import GoSem.Extern.MathDim
namespace Fl
open Ieee Go
theorem V_inj {x : Nat} {q r : Rat} (h : V x q) (k : V x r) : q = r := by
  obtain ⟨s, m, p, h1, h2⟩ := h
  obtain ⟨s', m', p', k1, k2⟩ := k
  rw [h1] at k1
  injection k1 with e1 e2 e3
  subst e1 e2 e3
  rw [← h2, ← k2]
theorem I_inj {x : Nat} {a b : Int} (h : IsI x a) (k : IsI x b) : a = b := by
  have := V_inj h k
  exact Rat.intCast_inj.1 this
/-- the whole number that a float is -/
noncomputable def ival (x : Nat) : Int := @dite _ (∃ a, IsI x a) (Classical.propDecidable _) (fun h => h.choose) (fun _ => 0)
theorem ival_eq {x : Nat} {a : Int} (h : IsI x a) : ival x = a := by
  have hx : ∃ a, IsI x a := ⟨a, h⟩
  unfold ival
  rw [dif_pos hx]
  exact I_inj hx.choose_spec h
/-- the least of two floats, as the machine has it -/
def amin (x y : Nat) : Nat :=
  let a := FloatKind.f64.decode x
  let b := FloatKind.f64.decode y
  if a == .infinity true || b == .infinity true then FloatKind.f64.encode (.infinity true)
  else if a.isNaN || b.isNaN then 0x7FF8000000000001
  else if a.isZero && b.isZero then (if a.neg == true then x else y)
  else if a.order b == some .lt then x else y
def INF : Nat := 9218868437227405312
theorem dec_inf : FloatKind.f64.decode INF = .infinity false := by decide +kernel
theorem amin_inf {y : Nat} {b : Int} (hy : IsI y b) : amin INF y = y := by
  obtain ⟨s, m, p, h1, -⟩ := hy
  have h1' : FloatKind.f64.decode y = .number s m p := h1
  unfold amin
  rw [dec_inf, h1']
  simp only []
  rfl
theorem amin_I {x y : Nat} {a b : Int} (hx : IsI x a) (hy : IsI y b) : IsI (amin x y) (min a b) := by
  have ho := order_I hx hy
  have hx0 := hx; have hy0 := hy
  obtain ⟨s, m, p, h1, h2⟩ := hx0
  obtain ⟨s', m', p', k1, k2⟩ := hy0
  have h1' : FloatKind.f64.decode x = .number s m p := h1
  have k1' : FloatKind.f64.decode y = .number s' m' p' := k1
  have ho' : (FloatKind.f64.decode x).order (FloatKind.f64.decode y) = some (compare a b) := ho
  unfold amin
  rw [h1', k1'] at ho' ⊢
  have e1 : ((Datum.number s m p == Datum.infinity true || Datum.number s' m' p' == Datum.infinity true) = false) := by rfl
  have e2 : ((Datum.number s m p).isNaN || (Datum.number s' m' p').isNaN) = false := by rfl
  simp only [e1, e2, Bool.false_eq_true, if_false]
  split
  · next hz =>
    simp only [Bool.and_eq_true] at hz
    have hm : ∀ {s m p} {q : Int}, (Datum.number s m p).isZero = true → dv (.number s m p) = (q : Rat) → q = 0 := fun {s m p q} h e => by
      have h0 : m = 0 := by
        cases m with
        | zero => rfl
        | succ k => exact absurd h (by simp [Datum.isZero])
      subst h0
      cases s <;> simp [dv] at e <;> exact_mod_cast e.symm
    have ha := hm hz.1 h2
    have hb := hm hz.2 k2
    subst ha hb
    split <;> assumption
  · rw [ho']
    rcases Int.lt_trichotomy a b with h | h | h
    · rw [Int.compare_eq_lt.2 h, Int.min_eq_left (by omega)]; exact hx
    · subst h; rw [Int.compare_eq_eq.2 rfl, Int.min_self]; exact hy
    · rw [Int.compare_eq_gt.2 h, Int.min_eq_right (by omega)]; exact hy
/-- a float that is a whole number, or above all -/
def DI (x : Nat) : Option Int → Prop
  | none => x = INF
  | some a => IsI x a
def ltO : Option Int → Option Int → Bool
  | some a, some b => decide (a < b)
  | some _, none => true
  | none, _ => false
theorem ltO_I {x y : Nat} {o q : Option Int} (hx : DI x o) (hy : DI y q) : (FloatKind.f64.format.order x y == some .lt) = ltO o q := by
  cases o with
  | none =>
    obtain rfl : x = INF := hx
    cases q with
    | none => obtain rfl : y = INF := hy; decide +kernel
    | some b =>
      obtain ⟨s, m, p, h1, -⟩ := (hy : IsI y b)
      have h1' : FloatKind.f64.decode y = .number s m p := h1
      have : FloatKind.f64.format.order INF y = (FloatKind.f64.decode INF).order (FloatKind.f64.decode y) := rfl
      rw [this, dec_inf, h1']; rfl
  | some a =>
    cases q with
    | none =>
      obtain rfl : y = INF := hy
      obtain ⟨s, m, p, h1, -⟩ := (hx : IsI x a)
      have h1' : FloatKind.f64.decode x = .number s m p := h1
      have : FloatKind.f64.format.order x INF = (FloatKind.f64.decode x).order (FloatKind.f64.decode INF) := rfl
      rw [this, dec_inf, h1']; rfl
    | some b => rw [lt_V hx hy]; exact decide_eq_decide.2 Rat.intCast_lt_intCast
def minO : Option Int → Int → Int
  | none, b => b
  | some a, b => min a b
theorem amin_DI {x y : Nat} {o : Option Int} {b : Int} (hx : DI x o) (hy : IsI y b) : IsI (amin x y) (minO o b) := by
  cases o with
  | none => obtain rfl : x = INF := hx; rw [amin_inf hy]; exact hy
  | some a => exact amin_I hx hy
end Fl
