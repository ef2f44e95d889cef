import Derived.Test.YtemobphkgbhhhaaMM
import Derived.Laws.FloatArith
namespace Fl
open Ieee Go
/-! numbers that may be infinite, in their order: a float's key -/
def isNum (x : Nat) : Bool := !(D.read x).isNaN
def xk (x : Nat) : Int := match D.read x with
  | .infinity true => -1
  | .infinity false => 1
  | _ => 0
def xq (x : Nat) : Rat := match D.read x with
  | .number s m p => dv (.number s m p)
  | _ => 0
def Xeq (x y : Nat) : Prop := xk x = xk y ∧ xq x = xq y
theorem Xeq.refl (x : Nat) : Xeq x x := ⟨rfl, rfl⟩
theorem Xeq.symm {x y : Nat} (h : Xeq x y) : Xeq y x := ⟨h.1.symm, h.2.symm⟩
theorem Xeq.trans {x y z : Nat} (h : Xeq x y) (k : Xeq y z) : Xeq x z := ⟨h.1.trans k.1, h.2.trans k.2⟩
def ordX (x y : Nat) : Ordering := if xk x < xk y then .lt else if xk y < xk x then .gt else cmp (xq x) (xq y)
theorem order_X {x y : Nat} (hx : isNum x = true) (hy : isNum y = true) : D.order x y = some (ordX x y) := by
  cases e : D.read x with
  | nan s t => simp [isNum, e, Datum.isNaN] at hx
  | infinity s =>
    cases e' : D.read y with
    | nan s t => simp [isNum, e', Datum.isNaN] at hy
    | infinity t =>
      unfold Format.order ordX xk xq; rw [e, e']
      cases s <;> cases t <;> simp [Datum.order, cmp] <;> decide
    | number t n j =>
      unfold Format.order ordX xk xq; rw [e, e']
      cases s <;> simp [Datum.order]
  | number s m i =>
    cases e' : D.read y with
    | nan s t => simp [isNum, e', Datum.isNaN] at hy
    | infinity t =>
      unfold Format.order ordX xk xq; rw [e, e']
      cases t <;> simp [Datum.order]
    | number t n j =>
      rw [order_V ⟨s, m, i, e, rfl⟩ ⟨t, n, j, e', rfl⟩]
      unfold ordX xk xq; rw [e, e']; simp
theorem isNum_order {x : Nat} : (FloatKind.f64.format.order x x == some .eq) = isNum x := by
  rw [f64D]
  cases h : isNum x with
  | true => rw [order_X h h]; unfold ordX; rw [if_neg (by omega), if_neg (by omega), (by unfold cmp; rw [if_neg Rat.lt_irrefl, if_pos rfl] : cmp (xq x) (xq x) = .eq)]; rfl
  | false =>
    unfold isNum at h
    cases e : D.read x <;> rw [e] at h <;> simp [Datum.isNaN] at h
    unfold Format.order; rw [e]; rfl
theorem cmp_eqI {a b : Rat} (h : cmp a b = .eq) : a = b := by
  unfold cmp at h
  split at h
  · cases h
  · split at h
    · assumption
    · cases h
theorem ordX_eq {x y : Nat} : ordX x y = .eq ↔ Xeq x y := by
  unfold ordX Xeq
  constructor
  · intro h
    split at h
    · cases h
    · split at h
      · cases h
      · exact ⟨by omega, cmp_eqI h⟩
  · rintro ⟨h1, h2⟩
    rw [if_neg (by omega), if_neg (by omega), h2]
    unfold cmp; rw [if_neg Rat.lt_irrefl, if_pos rfl]
theorem ordX_congr {x x' y y' : Nat} (h : Xeq x x') (k : Xeq y y') : ordX x y = ordX x' y' := by unfold ordX; rw [h.1, h.2, k.1, k.2]
theorem eq_X {x y : Nat} (hx : isNum x = true) (hy : isNum y = true) (h : Xeq x y) : (FloatKind.f64.format.order x y == some .eq) = true := by
  rw [f64D, order_X hx hy, ordX_eq.2 h]; rfl
theorem ne_X {x y : Nat} (hx : isNum x = true) (hy : isNum y = true) (h : Xeq x y) : (FloatKind.f64.format.order x y != some .eq) = false := by
  rw [bne, eq_X hx hy h]; rfl
theorem fmin_num {x y : Nat} (hx : isNum x = true) (hy : isNum y = true) : isNum (fmin x y) = true := by
  unfold fmin; repeat' split
  all_goals assumption
theorem fmax_num {x y : Nat} (hx : isNum x = true) (hy : isNum y = true) : isNum (fmax x y) = true := by
  unfold fmax; repeat' split
  all_goals assumption
theorem fmin_X {x y : Nat} (hx : isNum x = true) (hy : isNum y = true) : (ordX x y = .lt → fmin x y = x) ∧ (ordX x y = .gt → fmin x y = y) ∧ (ordX x y = .eq → Xeq (fmin x y) x ∧ Xeq (fmin x y) y) := by
  unfold fmin
  rw [f64D, order_X hx hy]
  refine ⟨fun h => by rw [h], fun h => by rw [h], fun h => ?_⟩
  have k := ordX_eq.1 h
  rw [h]; simp only
  split
  · exact ⟨Xeq.refl _, k⟩
  · exact ⟨k.symm, Xeq.refl _⟩
theorem fmax_X {x y : Nat} (hx : isNum x = true) (hy : isNum y = true) : (ordX x y = .gt → fmax x y = x) ∧ (ordX x y = .lt → fmax x y = y) ∧ (ordX x y = .eq → Xeq (fmax x y) x ∧ Xeq (fmax x y) y) := by
  unfold fmax
  rw [f64D, order_X hx hy]
  refine ⟨fun h => by rw [h], fun h => by rw [h], fun h => ?_⟩
  have k := ordX_eq.1 h
  rw [h]; simp only
  split
  · exact ⟨k.symm, Xeq.refl _⟩
  · exact ⟨Xeq.refl _, k⟩
theorem fmin_congr {x x' y y' : Nat} (hx : isNum x = true) (hy : isNum y = true) (hx' : isNum x' = true) (hy' : isNum y' = true) (h : Xeq x x') (k : Xeq y y') : Xeq (fmin x y) (fmin x' y') := by
  obtain ⟨a1, a2, a3⟩ := fmin_X hx hy
  obtain ⟨b1, b2, b3⟩ := fmin_X hx' hy'
  rw [← ordX_congr h k] at b1 b2 b3
  cases e : ordX x y with
  | lt => rw [a1 e, b1 e]; exact h
  | gt => rw [a2 e, b2 e]; exact k
  | eq => exact (a3 e).1.trans (h.trans (b3 e).1.symm)
theorem fmax_congr {x x' y y' : Nat} (hx : isNum x = true) (hy : isNum y = true) (hx' : isNum x' = true) (hy' : isNum y' = true) (h : Xeq x x') (k : Xeq y y') : Xeq (fmax x y) (fmax x' y') := by
  obtain ⟨a1, a2, a3⟩ := fmax_X hx hy
  obtain ⟨b1, b2, b3⟩ := fmax_X hx' hy'
  rw [← ordX_congr h k] at b1 b2 b3
  cases e : ordX x y with
  | lt => rw [a2 e, b2 e]; exact k
  | gt => rw [a1 e, b1 e]; exact h
  | eq => exact (a3 e).1.trans (h.trans (b3 e).1.symm)
theorem run_fminX {x y : Nat} (hx : isNum x = true) (hy : isNum y = true) (P : Program) (ts : Array TypeId) (t : TypeId) (w : World) : (Builtin.min_ ts t #[.float .f64 x, .float .f64 y]).run P w = .ok (.float .f64 (fmin x y)) w := by
  have h := order_X hx hy
  rw [← f64D] at h
  simp only [Builtin.min_, List.foldlM_cons, List.foldlM_nil, bind_pure]
  unfold Builtin.min2 fmin
  simp only [h]
  cases ordX x y <;> rfl
theorem run_fmaxX {x y : Nat} (hx : isNum x = true) (hy : isNum y = true) (P : Program) (ts : Array TypeId) (t : TypeId) (w : World) : (Builtin.max_ ts t #[.float .f64 x, .float .f64 y]).run P w = .ok (.float .f64 (fmax x y)) w := by
  have h := order_X hx hy
  rw [← f64D] at h
  simp only [Builtin.max_, List.foldlM_cons, List.foldlM_nil, bind_pure]
  unfold Builtin.max2 fmax
  simp only [h]
  cases ordX x y <;> rfl
/-- what math.Min, math.Max give by their word of assembly -/
def pickA (neg : Bool) (win : Ordering) (x y : Nat) : Nat :=
  let a := FloatKind.f64.decode x
  let b := FloatKind.f64.decode y
  if a == .infinity neg || b == .infinity neg then FloatKind.f64.encode (.infinity neg)
  else if a.isNaN || b.isNaN then 0x7FF8000000000001
  else if a.isZero && b.isZero then (if a.neg == neg then x else y)
  else if a.order b == some win then x else y
theorem inf_key (neg : Bool) : isNum (FloatKind.f64.encode (.infinity neg)) = true ∧ xk (FloatKind.f64.encode (.infinity neg)) = (if neg then -1 else 1) ∧ xq (FloatKind.f64.encode (.infinity neg)) = 0 := by
  have h : D.read (FloatKind.f64.encode (.infinity neg)) = .infinity neg := by cases neg <;> decide +kernel
  unfold isNum xk xq; rw [h]
  cases neg <;> simp [Datum.isNaN]
theorem zero_key {x : Nat} (h : (D.read x).isZero = true) : xk x = 0 ∧ xq x = 0 := by
  unfold xk xq
  cases e : D.read x with
  | number s m p =>
    rw [e] at h
    have hm : m = 0 := by
      cases m with
      | zero => rfl
      | succ m => cases h
    subst hm; simp [dv]
  | infinity s => rw [e] at h; cases h
  | nan s t => rw [e] at h; cases h
theorem pick_min {x y : Nat} (hx : isNum x = true) (hy : isNum y = true) : isNum (pickA true .lt x y) = true ∧ Xeq (pickA true .lt x y) (fmin x y) := by
  obtain ⟨a1, a2, a3⟩ := fmin_X hx hy
  obtain ⟨i1, i2, i3⟩ := inf_key true
  have ho := order_X hx hy
  unfold pickA
  show isNum (if (D.read x == .infinity true || D.read y == .infinity true) = true then _ else _) = true ∧ Xeq (if (D.read x == .infinity true || D.read y == .infinity true) = true then _ else _) _
  split
  · next h =>
    refine ⟨i1, ?_⟩
    rw [Bool.or_eq_true, beq_iff_eq, beq_iff_eq] at h
    have key : ∀ z, D.read z = .infinity true → xk z = -1 ∧ xq z = 0 := fun z hz => by unfold xk xq; rw [hz]; exact ⟨rfl, rfl⟩
    have lo : ∀ z, isNum z = true → -1 ≤ xk z ∧ (xk z = -1 → xq z = 0) := fun z hz => by
      unfold xk xq; cases e : D.read z with
      | infinity s => cases s <;> simp
      | _ => simp
    rcases h with h | h
    · obtain ⟨k1, k2⟩ := key _ h
      have := lo y hy
      cases e : ordX x y with
      | lt => rw [a1 e]; exact ⟨by rw [i2, k1]; rfl, by rw [i3, k2]⟩
      | eq => have := (a3 e).1; exact ⟨by rw [i2, this.1, k1]; rfl, by rw [i3, this.2, k2]⟩
      | gt =>
        exfalso
        unfold ordX at e
        rw [k1] at e
        split at e
        · cases e
        · next h1 =>
          have h3 : xk y = -1 := by omega
          rw [if_neg (by omega), k2, (lo y hy).2 h3] at e
          simp [cmp] at e
    · obtain ⟨k1, k2⟩ := key _ h
      cases e : ordX x y with
      | gt => rw [a2 e]; exact ⟨by rw [i2, k1]; rfl, by rw [i3, k2]⟩
      | eq => have := (a3 e).2; exact ⟨by rw [i2, this.1, k1]; rfl, by rw [i3, this.2, k2]⟩
      | lt =>
        exfalso
        unfold ordX at e
        rw [k1, k2] at e
        have h4 := lo x hx
        split at e
        · omega
        · split at e
          · cases e
          · have h3 : xk x = -1 := by omega
            rw [h4.2 h3] at e
            simp [cmp] at e
  · have hn : ((D.read x).isNaN || (D.read y).isNaN) = false := by unfold isNum at hx hy; simp at hx hy; simp [hx, hy]
    show isNum (if ((D.read x).isNaN || (D.read y).isNaN) = true then _ else _) = true ∧ Xeq (if ((D.read x).isNaN || (D.read y).isNaN) = true then _ else _) _
    rw [hn]
    simp only [Bool.false_eq_true, if_false]
    show isNum (if ((D.read x).isZero && (D.read y).isZero) = true then _ else _) = true ∧ Xeq (if ((D.read x).isZero && (D.read y).isZero) = true then _ else _) _
    split
    · next h =>
      rw [Bool.and_eq_true] at h
      obtain ⟨z1, z2⟩ := zero_key h.1
      obtain ⟨z3, z4⟩ := zero_key h.2
      have e : ordX x y = .eq := ordX_eq.2 ⟨by omega, by rw [z2, z4]⟩
      split
      · exact ⟨hx, (a3 e).1.symm⟩
      · exact ⟨hy, (a3 e).2.symm⟩
    · show isNum (if (D.order x y == some .lt) = true then _ else _) = true ∧ Xeq (if (D.order x y == some .lt) = true then _ else _) _
      rw [ho]
      cases e : ordX x y with
      | lt => rw [a1 e, if_pos (by rfl)]; exact ⟨hx, Xeq.refl _⟩
      | gt => rw [a2 e, if_neg (by decide)]; exact ⟨hy, Xeq.refl _⟩
      | eq => rw [if_neg (by decide)]; exact ⟨hy, (a3 e).2.symm⟩
theorem pick_max {x y : Nat} (hx : isNum x = true) (hy : isNum y = true) : isNum (pickA false .gt x y) = true ∧ Xeq (pickA false .gt x y) (fmax x y) := by
  obtain ⟨a1, a2, a3⟩ := fmax_X hx hy
  obtain ⟨i1, i2, i3⟩ := inf_key false
  have ho := order_X hx hy
  unfold pickA
  show isNum (if (D.read x == .infinity false || D.read y == .infinity false) = true then _ else _) = true ∧ Xeq (if (D.read x == .infinity false || D.read y == .infinity false) = true then _ else _) _
  split
  · next h =>
    refine ⟨i1, ?_⟩
    rw [Bool.or_eq_true, beq_iff_eq, beq_iff_eq] at h
    have key : ∀ z, D.read z = .infinity false → xk z = 1 ∧ xq z = 0 := fun z hz => by unfold xk xq; rw [hz]; exact ⟨rfl, rfl⟩
    have hi : ∀ z, isNum z = true → xk z ≤ 1 ∧ (xk z = 1 → xq z = 0) := fun z hz => by
      unfold xk xq; cases e : D.read z with
      | infinity s => cases s <;> simp
      | _ => simp
    rcases h with h | h
    · obtain ⟨k1, k2⟩ := key _ h
      cases e : ordX x y with
      | gt => rw [a1 e]; exact ⟨by rw [i2, k1]; rfl, by rw [i3, k2]⟩
      | eq => have := (a3 e).1; exact ⟨by rw [i2, this.1, k1]; rfl, by rw [i3, this.2, k2]⟩
      | lt =>
        exfalso
        unfold ordX at e
        rw [k1] at e
        have h4 := hi y hy
        split at e
        · omega
        · split at e
          · cases e
          · have h3 : xk y = 1 := by omega
            rw [k2, h4.2 h3] at e
            simp [cmp] at e
    · obtain ⟨k1, k2⟩ := key _ h
      cases e : ordX x y with
      | lt => rw [a2 e]; exact ⟨by rw [i2, k1]; rfl, by rw [i3, k2]⟩
      | eq => have := (a3 e).2; exact ⟨by rw [i2, this.1, k1]; rfl, by rw [i3, this.2, k2]⟩
      | gt =>
        exfalso
        unfold ordX at e
        rw [k1, k2] at e
        have h4 := hi x hx
        split at e
        · cases e
        · split at e
          · omega
          · have h3 : xk x = 1 := by omega
            rw [h4.2 h3] at e
            simp [cmp] at e
  · have hn : ((D.read x).isNaN || (D.read y).isNaN) = false := by unfold isNum at hx hy; simp at hx hy; simp [hx, hy]
    show isNum (if ((D.read x).isNaN || (D.read y).isNaN) = true then _ else _) = true ∧ Xeq (if ((D.read x).isNaN || (D.read y).isNaN) = true then _ else _) _
    rw [hn]
    simp only [Bool.false_eq_true, if_false]
    show isNum (if ((D.read x).isZero && (D.read y).isZero) = true then _ else _) = true ∧ Xeq (if ((D.read x).isZero && (D.read y).isZero) = true then _ else _) _
    split
    · next h =>
      rw [Bool.and_eq_true] at h
      obtain ⟨z1, z2⟩ := zero_key h.1
      obtain ⟨z3, z4⟩ := zero_key h.2
      have e : ordX x y = .eq := ordX_eq.2 ⟨by omega, by rw [z2, z4]⟩
      split
      · exact ⟨hx, (a3 e).1.symm⟩
      · exact ⟨hy, (a3 e).2.symm⟩
    · show isNum (if (D.order x y == some .gt) = true then _ else _) = true ∧ Xeq (if (D.order x y == some .gt) = true then _ else _) _
      rw [ho]
      cases e : ordX x y with
      | gt => rw [a1 e, if_pos (by rfl)]; exact ⟨hx, Xeq.refl _⟩
      | lt => rw [a2 e, if_neg (by decide)]; exact ⟨hy, Xeq.refl _⟩
      | eq => rw [if_neg (by decide)]; exact ⟨hy, (a3 e).2.symm⟩
/-- lists of numbers that are equal, one by one -/
def XL (zs ws : List Nat) : Prop := zs.length = ws.length ∧ ∀ (k z w : Nat), zs[k]? = some z → ws[k]? = some w → isNum z = true ∧ isNum w = true ∧ Xeq z w
theorem XL.refl {zs : List Nat} (h : ∀ (k z : Nat), zs[k]? = some z → isNum z = true) : XL zs zs := ⟨rfl, fun k z w hz hw => by rw [hz] at hw; cases hw; exact ⟨h k z hz, h k z hz, Xeq.refl _⟩⟩
theorem XL.set {zs ws : List Nat} (h : XL zs ws) {j z w : Nat} (hz : isNum z = true) (hw : isNum w = true) (he : Xeq z w) : XL (zs.set j z) (ws.set j w) := by
  refine ⟨by simp [h.1], fun k a b ha hb => ?_⟩
  rw [List.getElem?_set] at ha hb
  by_cases hj : j = k
  · rw [if_pos hj] at ha hb
    split at ha
    · split at hb
      · cases ha; cases hb; exact ⟨hz, hw, he⟩
      · cases hb
    · cases ha
  · rw [if_neg hj] at ha hb
    exact h.2 k a b ha hb
/-- the least (greatest) ones along each of s axes, of a row's first t numbers -/
def extL (f : Nat → Nat → Nat) (xs fl : List Nat) (s : Nat) : Nat → List Nat
  | 0 => xs
  | t + 1 => (extL f xs fl s t).set (t % s) (f ((extL f xs fl s t).getD (t % s) 0) (fl.getD t 0))
theorem extL_len (f : Nat → Nat → Nat) (xs fl : List Nat) (s t : Nat) : (extL f xs fl s t).length = xs.length := by
  induction t with
  | zero => rfl
  | succ t ih => unfold extL; rw [List.length_set, ih]
theorem isNum_inf : isNum 9218868437227405312 = true ∧ isNum 18442240474082181120 = true := by constructor <;> decide +kernel
end Fl
