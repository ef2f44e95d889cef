import Derived.Test.YtkcpjndelcfmhaaDoorGrow
namespace Go
open Go.RowKit Go.GrowR
/-! what a slice of floats holds; memory may grow -/
def FCells (w : World) (b o : Nat) (xs : List Nat) : Prop := ∀ i x, xs[i]? = some x → w.cell? ⟨b, o + i, none⟩ = some (.float .f64 x)
theorem FCells.up {w w' : World} {b o : Nat} {xs : List Nat} (h : FCells w b o xs) (hg : Grow w w') : FCells w' b o xs := fun i x hi => up_cell (h i x hi) hg
def FSl (v : Value) (xs : List Nat) (w : World) : Prop := ∃ A c, v = .slice A xs.length c ∧ xs.length ≤ c ∧ (xs = [] ∨ ∃ b o, A = some ⟨b, o, none⟩ ∧ FCells w b o xs)
theorem FSl.up {v : Value} {xs : List Nat} : Up (FSl v xs) := fun _ _ ⟨A, c, h1, h2, h3⟩ hg => ⟨A, c, h1, h2, h3.imp id fun ⟨b, o, e, h⟩ => ⟨b, o, e, h.up hg⟩⟩
/-- a slice of such slices -/
def FSCells (w : World) (b o : Nat) (xss : List (List Nat)) : Prop := ∀ i xs, xss[i]? = some xs → ∃ u, w.cell? ⟨b, o + i, none⟩ = some u ∧ FSl u xs w
def FSSl (v : Value) (xss : List (List Nat)) (w : World) : Prop := ∃ A c, v = .slice A xss.length c ∧ xss.length ≤ c ∧ (xss = [] ∨ ∃ b o, A = some ⟨b, o, none⟩ ∧ FSCells w b o xss)
theorem FSCells.up {w w' : World} {b o : Nat} {xss : List (List Nat)} (h : FSCells w b o xss) (hg : Grow w w') : FSCells w' b o xss := fun i x hi => let ⟨u, h1, h2⟩ := h i x hi; ⟨u, up_cell h1 hg, FSl.up _ _ h2 hg⟩
theorem FSSl.up {v : Value} {xss : List (List Nat)} : Up (FSSl v xss) := fun _ _ ⟨A, c, h1, h2, h3⟩ hg => ⟨A, c, h1, h2, h3.imp id fun ⟨b, o, e, h⟩ => ⟨b, o, e, h.up hg⟩⟩
@[go_sem] theorem run_store_float {P : Program} {w : World} {a : Addr} {m : Mode} (k : FloatKind) (b : Nat) : (store a (.float k b) m).run P w = stored P w a (.float k b) m := run_store P w a _ m rfl
@[go_sem] theorem run_store_func {P : Program} {w : World} {a : Addr} {m : Mode} (f : Fn) (x y : Array Value) : (store a (.func f x y) m).run P w = stored P w a (.func f x y) m := run_store P w a _ m rfl
@[go_sem] theorem run_neg_float {P : Program} (k : FloatKind) (b : Nat) (w : World) : (Op.unary .neg (.float k b)).run P w = .ok (.float k (Op.negFloat k b)) w := rfl
end Go
namespace Go
open Go.RowKit Go.GrowR
/-- rows of two, of three floats -/
def P2Cells (w : World) (b o : Nat) (ps : List (Nat × Nat)) : Prop := ∀ i x y, ps[i]? = some (x, y) → w.cell? ⟨b, o + i * 2, none⟩ = some (.float .f64 x) ∧ w.cell? ⟨b, o + i * 2 + 1, none⟩ = some (.float .f64 y)
def P3Cells (w : World) (b o : Nat) (ps : List (Nat × Nat × Nat)) : Prop := ∀ i x y z, ps[i]? = some (x, y, z) → w.cell? ⟨b, o + i * 3, none⟩ = some (.float .f64 x) ∧ w.cell? ⟨b, o + i * 3 + 1, none⟩ = some (.float .f64 y) ∧ w.cell? ⟨b, o + i * 3 + 2, none⟩ = some (.float .f64 z)
theorem P2Cells.up {w w' : World} {b o : Nat} {ps : List (Nat × Nat)} (h : P2Cells w b o ps) (hg : Grow w w') : P2Cells w' b o ps := fun i x y hi => ⟨up_cell (h i x y hi).1 hg, up_cell (h i x y hi).2 hg⟩
theorem P3Cells.up {w w' : World} {b o : Nat} {ps : List (Nat × Nat × Nat)} (h : P3Cells w b o ps) (hg : Grow w w') : P3Cells w' b o ps := fun i x y z hi => ⟨up_cell (h i x y z hi).1 hg, up_cell (h i x y z hi).2.1 hg, up_cell (h i x y z hi).2.2 hg⟩
/-- a new place for so many floats, 0 each -/
def FreshP (d B : Nat) (lo hi : Nat) (V : Value) (w : World) : Prop := ∃ b, V = .pointer (some ⟨b, 0, none⟩) ∧ B ≤ b ∧ lo ≤ b ∧ b < hi ∧ ∀ j, j < d → w.cell? ⟨b, j, none⟩ = some (.float .f64 0) ∧ w.frozen? ⟨b, j, none⟩ = false
theorem up_frozen {w w' : World} {a : Addr} {v : Value} {f : Bool} (h : w.cell? a = some v) (hf : w.frozen? a = f) (hg : Grow w w') : w'.frozen? a = f := by
  by_cases hb : a.block < w.heap.size
  · rw [Below.frozen hg hb]; exact hf
  · exfalso
    unfold World.cell? at h
    rw [Array.getElem?_eq_none (by omega)] at h
    simp at h
theorem FreshP.up {d B lo hi : Nat} {V : Value} : Up (FreshP d B lo hi V) := fun _ _ ⟨b, h1, h0, h2, h3, h4⟩ hg => ⟨b, h1, h0, h2, h3, fun j hj => ⟨up_cell (h4 j hj).1 hg, up_frozen (h4 j hj).1 (h4 j hj).2 hg⟩⟩
theorem all2 {p : Nat → Prop} (h0 : p 0) (h1 : p 1) : ∀ j, j < 2 → p j := fun j hj => by
  match j, hj with
  | 0, _ => exact h0
  | 1, _ => exact h1
theorem all3 {p : Nat → Prop} (h0 : p 0) (h1 : p 1) (h2 : p 2) : ∀ j, j < 3 → p j := fun j hj => by
  match j, hj with
  | 0, _ => exact h0
  | 1, _ => exact h1
  | 2, _ => exact h2
end Go
