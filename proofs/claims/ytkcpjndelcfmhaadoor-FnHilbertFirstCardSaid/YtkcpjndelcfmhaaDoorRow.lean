import Derived.ChangeOld
import Derived.SizedLaws
import Derived.Carry
import Derived.Lib.SmallJoins
import Derived.ProofKit
import Derived.OpenShut
import Derived.Deep.Slices
import Derived.Test.YtkcpjndelcfmhaaDoorOwn
namespace Go
open Go.ChangeShapes Go.WideShapes Go.ChangeAt Go.RowKit
set_option linter.unusedVariables false
set_option linter.unusedSimpArgs false
theorem cell_float {H : Type} {enc : TypeId × Value → H} {P : Program} {w : World} {base : Nat} {spare : Nat → Bool} {held : Bool} {t : TypeId} {k : FloatKind} {n : Nat} {v : Value} {y : DataW H × List MemPlace} (ht : P.underlying t = some (.float k))
    (h : DataW.trod enc P w base spare held n t [v] = some y) : ∃ b, v = .float k b ∧ (Lit.float k b).wf = true := by
  cases n with
  | zero => simp [DataW.trod] at h
  | succ n =>
    simp only [DataW.trod, ht] at h
    cases v <;> simp at h
    case float k' b => exact ⟨b, by rw [h.1.1], h.1.2⟩

theorem open_p3 {H : Type} {enc : TypeId × Value → H} {P : Program} {w : World} {base : Nat} {spare : Nat → Bool} {held : Bool} {r : Reach} {b0 : Nat} {t : TypeId} {f0 f1 f2 : Field} {v : Value} {d : DataW H} {p : List MemPlace} (hs : P.underlying t = some (.struct #[f0, f1, f2]))
    (hone : Deep.oneCellFields P #[f0, f1, f2] = true) (hC : P.cellsOf t = 3) (hv : Value.okWide P w r b0 t v) (h : DataW.Trod enc P w base spare held t v d p)
    (h0 : P.underlying f0.type = some (.float .f64)) (h1 : P.underlying f1.type = some (.float .f64)) (h2 : P.underlying f2.type = some (.float .f64)) :
    ∃ x y z, v = .agg #[.float .f64 x, .float .f64 y, .float .f64 z] ∧ (Lit.float .f64 x).wf = true ∧ (Lit.float .f64 y).wf = true ∧ (Lit.float .f64 z).wf = true := by
  obtain ⟨v0, v1, v2, y0, y1, y2, n, rfl, _, _, k0, k1, k2⟩ := Joins.open_agg3 hs hone hC hv h
  obtain ⟨x, rfl, wx⟩ := cell_float h0 k0
  obtain ⟨y, rfl, wy⟩ := cell_float h1 k1
  obtain ⟨z, rfl, wz⟩ := cell_float h2 k2
  exact ⟨x, y, z, rfl, wx, wy, wz⟩

theorem open_p2 {H : Type} {enc : TypeId × Value → H} {P : Program} {w : World} {base : Nat} {spare : Nat → Bool} {held : Bool} {r : Reach} {b0 : Nat} {t : TypeId} {f0 f1 : Field} {v : Value} {d : DataW H} {p : List MemPlace} (hs : P.underlying t = some (.struct #[f0, f1]))
    (hone : Deep.oneCellFields P #[f0, f1] = true) (hC : P.cellsOf t = 2) (hv : Value.okWide P w r b0 t v) (h : DataW.Trod enc P w base spare held t v d p)
    (h0 : P.underlying f0.type = some (.float .f64)) (h1 : P.underlying f1.type = some (.float .f64)) :
    ∃ x y, v = .agg #[.float .f64 x, .float .f64 y] ∧ (Lit.float .f64 x).wf = true ∧ (Lit.float .f64 y).wf = true := by
  obtain ⟨v0, v1, y0, y1, n, rfl, _, _, k0, k1⟩ := Joins.open_agg2 hs hone hC hv h
  obtain ⟨x, rfl, wx⟩ := cell_float h0 k0
  obtain ⟨y, rfl, wy⟩ := cell_float h1 k1
  exact ⟨x, y, rfl, wx, wy⟩
open Go.GrowR
theorem choose_list {p : Nat → Nat → Prop} : ∀ (n : Nat), (∀ i, i < n → ∃ b, p i b) → ∃ xs : List Nat, xs.length = n ∧ ∀ i x, xs[i]? = some x → p i x
  | 0, _ => ⟨[], rfl, fun i x h => by simp at h⟩
  | n + 1, h => by
    obtain ⟨xs, hl, hx⟩ := choose_list n fun i hi => h i (by omega)
    obtain ⟨b, hb⟩ := h n (by omega)
    refine ⟨xs ++ [b], by simp [hl], fun i x hi => ?_⟩
    rw [List.getElem?_append] at hi
    split at hi
    · exact hx i x hi
    · next hlt =>
      rw [List.getElem?_singleton] at hi
      split at hi
      · next h0 => cases hi; have : i = n := by omega
                   subst this; exact hb
      · cases hi
/-- a slice of cells that are floats -/
theorem cells_f {w : World} {a : Addr} {n c : Nat} {xs : List Nat} (hl : xs.length = n) (hc : n ≤ c) (h : ∀ i x, xs[i]? = some x → w.cell? (a.add i) = some (.float .f64 x)) : FSl (.slice (some a) n c) xs w := by
  subst hl
  refine ⟨_, _, rfl, hc, ?_⟩
  cases xs with
  | nil => exact .inl rfl
  | cons x xs =>
    have h0 := h 0 x rfl
    obtain ⟨b, o, s⟩ := a
    cases s with
    | some s =>
      exfalso
      simp only [Addr.add, if_pos] at h0
      unfold World.cell? at h0
      simp at h0
      split at h0 <;> simp at h0
    | none => exact .inr ⟨b, o, rfl, fun i y hi => by have := h i y hi; rwa [addr_add] at this⟩
theorem open_f {H : Type} {enc : TypeId × Value → H} {P : Program} {w : World} {base : Nat} {spare : Nat → Bool} {held : Bool} {t e : TypeId} {v : Value} {d : DataW H} {p : List MemPlace}
    (ht : P.underlying t = some (.slice e)) (hc : P.cellsOf e = 1) (he : P.underlying e = some (.float .f64)) {r : Reach} {b0 : Nat} (hv : Value.okWide P w r b0 t v) (h : DataW.Trod enc P w base spare held t v d p) :
    ∃ xs, FSl v xs w ∧ (∀ x ∈ xs, (Lit.float .f64 x).wf = true) ∧ xs.length ≤ maxLen := by
  obtain ⟨a', len, c', rfl⟩ := okWide_slice ht hv
  obtain ⟨n, h⟩ := h
  replace h : DataW.trod enc P w base spare held n t [Value.slice a' len c'] = some (d, p) := h
  rcases Deep.open_slice1 ht hc h with ⟨h0, _⟩ | ⟨a, len', cap, m, k, V, D, Pl, h0, hb, hl, hm, hmm, _, hx⟩
  · cases h0; exact ⟨[], ⟨none, 0, rfl, Nat.le_refl _, .inl rfl⟩, by simp, by simp⟩
  · cases h0
    have hlm : len ≤ m := by rw [hmm]; split <;> omega
    obtain ⟨xs, hxl, hxs⟩ := choose_list (p := fun i b => w.cell? (a.add i) = some (.float .f64 b) ∧ (Lit.float .f64 b).wf = true) len fun i hi => by
      obtain ⟨h1, h2⟩ := hx i (by omega)
      obtain ⟨b, hb, hw⟩ := cell_float he h2
      exact ⟨b, by rw [h1, hb], hw⟩
    refine ⟨xs, cells_f hxl hl fun i x hi => (hxs i x hi).1, fun x hx => ?_, by omega⟩
    obtain ⟨i, hi⟩ := List.mem_iff_getElem?.1 hx
    exact (hxs i x hi).2
theorem cell_int {H : Type} {enc : TypeId × Value → H} {P : Program} {w : World} {base : Nat} {spare : Nat → Bool} {held : Bool} {t : TypeId} {k : IntKind} {n : Nat} {v : Value} {y : DataW H × List MemPlace} (ht : P.underlying t = some (.int k))
    (h : DataW.trod enc P w base spare held n t [v] = some y) : ∃ b, v = .int k b ∧ (Lit.int k b).wf = true := by
  cases n with
  | zero => simp [DataW.trod] at h
  | succ n =>
    simp only [DataW.trod, ht] at h
    cases v <;> simp at h
    case int k' b => exact ⟨b, by rw [h.1.1], h.1.2⟩
theorem open_i {H : Type} {enc : TypeId × Value → H} {P : Program} {w : World} {base : Nat} {spare : Nat → Bool} {held : Bool} {t : TypeId} {v : Value} {d : DataW H} {p : List MemPlace}
    (ht : P.underlying t = some (.int .i64)) {r : Reach} {b0 : Nat} (hv : Value.okWide P w r b0 t v) (h : DataW.Trod enc P w base spare held t v d p) : ∃ n, v = .int .i64 n ∧ (Lit.int .i64 n).wf = true := by
  obtain ⟨n', rfl⟩ := okWide_int ht hv
  obtain ⟨n, h⟩ := h
  obtain ⟨m, h1, h2⟩ := cell_int (v := .int .i64 n') ht h
  exact ⟨m, h1, h2⟩
theorem cell_f {H : Type} {enc : TypeId × Value → H} {P : Program} {w : World} {base : Nat} {spare : Nat → Bool} {held : Bool} {t e : TypeId} {v : Value} {n : Nat} {y : DataW H × List MemPlace}
    (ht : P.underlying t = some (.slice e)) (hc : P.cellsOf e = 1) (he : P.underlying e = some (.float .f64)) (h : DataW.trod enc P w base spare held n t [v] = some y) :
    ∃ xs, FSl v xs w ∧ (∀ x ∈ xs, (Lit.float .f64 x).wf = true) ∧ xs.length ≤ maxLen := by
  rcases Deep.open_slice1 ht hc h with ⟨h0, _⟩ | ⟨a, len', cap, m, k, V, D, Pl, h0, hb, hl, hm, hmm, _, hx⟩
  · cases h0; exact ⟨[], ⟨none, 0, rfl, Nat.le_refl _, .inl rfl⟩, by simp, by simp⟩
  · cases h0
    have hlm : len' ≤ m := by rw [hmm]; split <;> omega
    obtain ⟨xs, hxl, hxs⟩ := choose_list (p := fun i b => w.cell? (a.add i) = some (.float .f64 b) ∧ (Lit.float .f64 b).wf = true) len' fun i hi => by
      obtain ⟨h1, h2⟩ := hx i (by omega)
      obtain ⟨b, hb, hw⟩ := cell_float he h2
      exact ⟨b, by rw [h1, hb], hw⟩
    refine ⟨xs, cells_f hxl hl fun i x hi => (hxs i x hi).1, fun x hx => ?_, by omega⟩
    obtain ⟨i, hi⟩ := List.mem_iff_getElem?.1 hx
    exact (hxs i x hi).2
theorem open_bx {H : Type} {enc : TypeId × Value → H} {P : Program} {w : World} {base : Nat} {spare : Nat → Bool} {held : Bool} {r : Reach} {b0 : Nat} {t e : TypeId} {f0 f1 f2 : Field} {v : Value} {d : DataW H} {p : List MemPlace} (hs : P.underlying t = some (.struct #[f0, f1, f2]))
    (hone : Deep.oneCellFields P #[f0, f1, f2] = true) (hC : P.cellsOf t = 3) (h0 : P.underlying f0.type = some (.int .i64)) (h1 : P.underlying f1.type = some (.slice e)) (h2 : P.underlying f2.type = some (.slice e)) (hc : P.cellsOf e = 1) (he : P.underlying e = some (.float .f64))
    (hv : Value.okWide P w r b0 t v) (h : DataW.Trod enc P w base spare held t v d p) :
    ∃ n u xs z ys, v = .agg #[.int .i64 n, u, z] ∧ FSl u xs w ∧ FSl z ys w ∧ xs.length ≤ maxLen ∧ ys.length ≤ maxLen ∧ (Lit.int .i64 n).wf = true := by
  obtain ⟨v0, v1, v2, y0, y1, y2, n, rfl, _, _, k0, k1, k2⟩ := Joins.open_agg3 hs hone hC hv h
  obtain ⟨x, rfl, wx⟩ := cell_int h0 k0
  obtain ⟨xs, hx, _, lx⟩ := cell_f h1 hc he k1
  obtain ⟨ys, hy, _, ly⟩ := cell_f h2 hc he k2
  exact ⟨x, v1, xs, v2, ys, rfl, hx, hy, lx, ly, wx⟩
theorem choose_listα {α : Type} {p : Nat → α → Prop} : ∀ (n : Nat), (∀ i, i < n → ∃ b, p i b) → ∃ xs : List α, xs.length = n ∧ ∀ i x, xs[i]? = some x → p i x
  | 0, _ => ⟨[], rfl, fun i x h => by simp at h⟩
  | n + 1, h => by
    obtain ⟨xs, hl, hx⟩ := choose_listα n fun i hi => h i (by omega)
    obtain ⟨b, hb⟩ := h n (by omega)
    refine ⟨xs ++ [b], by simp [hl], fun i x hi => ?_⟩
    rw [List.getElem?_append] at hi
    split at hi
    · exact hx i x hi
    · next hlt =>
      rw [List.getElem?_singleton] at hi
      split at hi
      · next h0 => cases hi; have : i = n := by omega
                   subst this; exact hb
      · cases hi
theorem cells_ff {w : World} {a : Addr} {n c : Nat} {xss : List (List Nat)} (hl : xss.length = n) (hc : n ≤ c) (h : ∀ i xs, xss[i]? = some xs → ∃ u, w.cell? (a.add i) = some u ∧ FSl u xs w) : FSSl (.slice (some a) n c) xss w := by
  subst hl
  refine ⟨_, _, rfl, hc, ?_⟩
  cases xss with
  | nil => exact .inl rfl
  | cons x xs =>
    obtain ⟨u, h0, _⟩ := h 0 x rfl
    obtain ⟨b, o, s⟩ := a
    cases s with
    | some s =>
      exfalso
      simp only [Addr.add, if_pos] at h0
      unfold World.cell? at h0
      simp at h0
      split at h0 <;> simp at h0
    | none => exact .inr ⟨b, o, rfl, fun i y hi => by
        obtain ⟨u, h1, h2⟩ := h i y hi
        rw [addr_add] at h1
        exact ⟨u, h1, h2⟩⟩
/-- a slice of slices of floats; the lengths are the model's -/
theorem cell_ff {H : Type} {enc : TypeId × Value → H} {P : Program} {w : World} {base : Nat} {spare : Nat → Bool} {held : Bool} {t s e : TypeId} {v : Value} {n : Nat} {y : DataW H × List MemPlace}
    (ht : P.underlying t = some (.slice s)) (hcs : P.cellsOf s = 1) (hs : P.underlying s = some (.slice e)) (hc : P.cellsOf e = 1) (he : P.underlying e = some (.float .f64)) (h : DataW.trod enc P w base spare held n t [v] = some y) :
    ∃ xss, FSSl v xss w ∧ (∀ xs ∈ xss, xs.length ≤ maxLen ∧ ∀ x ∈ xs, (Lit.float .f64 x).wf = true) ∧ xss.length ≤ maxLen := by
  rcases Deep.open_slice1 ht hcs h with ⟨h0, _⟩ | ⟨a, len', cap, m, k, V, D, Pl, h0, hb, hl, hm, hmm, _, hx⟩
  · cases h0; exact ⟨[], ⟨none, 0, rfl, Nat.le_refl _, .inl rfl⟩, by simp, by simp⟩
  · cases h0
    have hlm : len' ≤ m := by rw [hmm]; split <;> omega
    obtain ⟨xss, hxl, hxs⟩ := choose_listα (p := fun i xs => (∃ u, w.cell? (a.add i) = some u ∧ FSl u xs w) ∧ xs.length ≤ maxLen ∧ ∀ x ∈ xs, (Lit.float .f64 x).wf = true) len' fun i hi => by
      obtain ⟨h1, h2⟩ := hx i (by omega)
      obtain ⟨xs, h3, h4, h5⟩ := cell_f hs hc he h2
      exact ⟨xs, ⟨_, h1, h3⟩, h5, h4⟩
    refine ⟨xss, cells_ff hxl hl fun i x hi => (hxs i x hi).1, fun xs hx => ?_, by omega⟩
    obtain ⟨i, hi⟩ := List.mem_iff_getElem?.1 hx
    exact (hxs i xs hi).2
theorem open_ff {H : Type} {enc : TypeId × Value → H} {P : Program} {w : World} {base : Nat} {spare : Nat → Bool} {held : Bool} {t s e : TypeId} {v : Value} {d : DataW H} {p : List MemPlace}
    (ht : P.underlying t = some (.slice s)) (hcs : P.cellsOf s = 1) (hs : P.underlying s = some (.slice e)) (hc : P.cellsOf e = 1) (he : P.underlying e = some (.float .f64)) {r : Reach} {b0 : Nat} (hv : Value.okWide P w r b0 t v) (h : DataW.Trod enc P w base spare held t v d p) :
    ∃ xss, FSSl v xss w ∧ (∀ xs ∈ xss, xs.length ≤ maxLen ∧ ∀ x ∈ xs, (Lit.float .f64 x).wf = true) ∧ xss.length ≤ maxLen := by
  obtain ⟨a', len, c', rfl⟩ := okWide_slice ht hv
  obtain ⟨n, h⟩ := h
  exact cell_ff ht hcs hs hc he (n := n) (v := .slice a' len c') h
end Go
