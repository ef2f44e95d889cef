import Derived.Test.YtegknlnkkoeahaaFB
namespace Go.Proofs.Ytegknlnkkoeahaa
open Go.RowKit Go.GrowR
set_option linter.unusedVariables false
set_option linter.unusedSimpArgs false
/-- seven cells that may be written -/
def C7 (b : Nat) (v0 v1 v2 v3 v4 v5 v6 : Value) (w : World) : Prop := w.cell? ⟨b, 0, none⟩ = some v0 ∧ w.cell? ⟨b, 1, none⟩ = some v1 ∧ w.cell? ⟨b, 2, none⟩ = some v2 ∧ w.cell? ⟨b, 3, none⟩ = some v3 ∧ w.cell? ⟨b, 4, none⟩ = some v4 ∧ w.cell? ⟨b, 5, none⟩ = some v5 ∧ w.cell? ⟨b, 6, none⟩ = some v6 ∧ ∀ o, w.frozen? ⟨b, o, none⟩ = false
section
variable {b : Nat} {v0 v1 v2 v3 v4 v5 v6 : Value}
theorem C7.same {w w' : World} (h : C7 b v0 v1 v2 v3 v4 v5 v6 w) (hb : w'.heap[b]? = w.heap[b]?) : C7 b v0 v1 v2 v3 v4 v5 v6 w' := by
  obtain ⟨h0, h1, h2, h3, h4, h5, h6, h7⟩ := h
  have k : ∀ o, w'.cell? ⟨b, o, none⟩ = w.cell? ⟨b, o, none⟩ := fun o => World.cell?_of_block (w := w) hb
  have f : ∀ o, w'.frozen? ⟨b, o, none⟩ = w.frozen? ⟨b, o, none⟩ := fun o => World.frozen?_of_block (w := w) hb
  exact ⟨(k 0).trans h0, (k 1).trans h1, (k 2).trans h2, (k 3).trans h3, (k 4).trans h4, (k 5).trans h5, (k 6).trans h6, fun o => (f o).trans (h7 o)⟩
theorem C7.up : Up (C7 b v0 v1 v2 v3 v4 v5 v6) := fun _ _ h hg => h.same (hg.block b (cell_ltH h.1))
theorem C7.set6 {w : World} (h : C7 b v0 v1 v2 v3 v4 v5 v6 w) (q : Value) : C7 b v0 v1 v2 v3 v4 v5 q (w.setCell ⟨b, 6, none⟩ q) := by
  obtain ⟨h0, h1, h2, h3, h4, h5, h6, h7⟩ := h
  exact ⟨by rw [World.cell?_setCell_other _ _ _ _ (by simp)]; exact h0, by rw [World.cell?_setCell_other _ _ _ _ (by simp)]; exact h1, by rw [World.cell?_setCell_other _ _ _ _ (by simp)]; exact h2, by rw [World.cell?_setCell_other _ _ _ _ (by simp)]; exact h3, by rw [World.cell?_setCell_other _ _ _ _ (by simp)]; exact h4, by rw [World.cell?_setCell_other _ _ _ _ (by simp)]; exact h5, World.cell?_setCell_same _ _ _ h6, fun o => by rw [World.frozen?_setCell]; exact h7 o⟩
theorem C7.setNe {w : World} (h : C7 b v0 v1 v2 v3 v4 v5 v6 w) {p : Addr} (hp : p.block ≠ b) (q : Value) : C7 b v0 v1 v2 v3 v4 v5 v6 (w.setCell p q) := h.same (Below.heap_setCell _ _ _ _ (fun e => hp (by first | exact e | exact e.symm)))
end
end Go.Proofs.Ytegknlnkkoeahaa
