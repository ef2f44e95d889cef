import Derived.Test.YtlkoaanagbgpkaaRow
import Derived.WalkKit
namespace Go.Proofs.Ytlkoaanagbgpkaa
open Go.ChangeShapes Go.WideShapes Go.ChangeAt Go.RowKit Go.GrowR
set_option linter.unusedVariables false
set_option linter.unusedSimpArgs false
theorem cell_lt {w : World} {a : Addr} {v : Value} (h : w.cell? a = some v) : a.block < w.heap.size := by
  rcases Nat.lt_or_ge a.block w.heap.size with h1 | h1
  · exact h1
  · unfold World.cell? at h
    rw [Array.getElem?_eq_none h1] at h
    simp at h
theorem froz_up {w w' : World} {b o : Nat} (h : b < w.heap.size) (hg : Grow w w') : w'.frozen? ⟨b, o, none⟩ = w.frozen? ⟨b, o, none⟩ := by
  unfold World.frozen?
  rw [hg.block b h]
abbrev GB (B : Nat) : World → World → Prop := GX (fun k => B ≤ k) (fun _ => False)
theorem gxSet {B : Nat} {w w' : World} {p : Addr} (h : GB B w w') (hp : B ≤ p.block) (u : Value) : GB B w (w'.setCell p u) := h.trans (GX.setCell _ hp (fun X hX => hX.elim))
theorem gxDrew {B : Nat} {w w' : World} (h : GB B w w') : GB B w w'.drew := h.trans (GX.of_grow (fun _ hX => hX.elim) (Grow.refl w').drew)
end Go.Proofs.Ytlkoaanagbgpkaa
