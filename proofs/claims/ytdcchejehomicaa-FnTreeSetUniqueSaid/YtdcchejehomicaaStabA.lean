import Derived.Test.YtdcchejehomicaaFB
namespace Go.Proofs.Ytdcchejehomicaa
open Go.RowKit Go.GrowR
set_option linter.unusedVariables false
set_option linter.unusedSimpArgs false
/-- a fact that hangs on the blocks from lo up to hi alone -/
def Stab (lo hi : Nat) (X : World → Prop) (w : World) : Prop := ∀ w' : World, (∀ k, lo ≤ k → k < hi → w'.heap[k]? = w.heap[k]?) → X w'
namespace Stab
variable {lo hi : Nat} {X Y : World → Prop} {w w' : World}
theorem now (h : Stab lo hi X w) : X w := h w fun _ _ _ => rfl
theorem move (h : Stab lo hi X w) (hw : ∀ k, lo ≤ k → k < hi → w'.heap[k]? = w.heap[k]?) : Stab lo hi X w' := fun w2 h2 => h w2 fun k h3 h4 => (h2 k h3 h4).trans (hw k h3 h4)
theorem grow (h : Stab lo hi X w) (hg : Grow w w') (hh : hi ≤ w.heap.size) : Stab lo hi X w' := h.move fun k _ h2 => hg.block k (Nat.lt_of_lt_of_le h2 hh)
theorem wide {lo' hi' : Nat} (h : Stab lo hi X w) (h1 : lo' ≤ lo) (h2 : hi ≤ hi') : Stab lo' hi' X w := fun w2 h3 => h w2 fun k h4 h5 => h3 k (by omega) (by omega)
theorem and (h : Stab lo hi X w) (k : Stab lo hi Y w) : Stab lo hi (fun w => X w ∧ Y w) w := fun w2 h2 => ⟨h w2 h2, k w2 h2⟩
theorem imp (h : Stab lo hi X w) (k : ∀ w, X w → Y w) : Stab lo hi Y w := fun w2 h2 => k _ (h w2 h2)
theorem cell {b o : Nat} {v : Value} (h : w.cell? ⟨b, o, none⟩ = some v) (h1 : lo ≤ b) (h2 : b < hi) : Stab lo hi (fun w => w.cell? ⟨b, o, none⟩ = some v) w := fun w2 h3 => by
  show w2.cell? ⟨b, o, none⟩ = some v
  rw [World.cell?_of_block (w := w) (h3 b h1 h2)]; exact h
theorem froz {b o : Nat} {f : Bool} (h : w.frozen? ⟨b, o, none⟩ = f) (h1 : lo ≤ b) (h2 : b < hi) : Stab lo hi (fun w => w.frozen? ⟨b, o, none⟩ = f) w := fun w2 h3 => by
  show w2.frozen? ⟨b, o, none⟩ = f
  rw [World.frozen?_of_block (w := w) (h3 b h1 h2)]; exact h
theorem own {e : TypeId} {B : Nat} {v : Value} {xs : List Value} (h : VOwn e B v xs w) (h1 : lo ≤ B) (h2 : w.heap.size ≤ hi) : Stab lo hi (VOwn e B v xs) w := fun w2 h3 => by
  refine ⟨h.1, ?_⟩
  rcases h.2 with h | ⟨g, cap, cur, rfl, hb, hh, hr⟩
  · exact .inl h
  · refine .inr ⟨g, cap, cur, rfl, hb, ?_, hr⟩
    rw [h3 g (by omega) ?_]; exact hh
    have : g < w.heap.size := by
      rcases Nat.lt_or_ge g w.heap.size with hlt | hge
      · exact hlt
      · rw [Array.getElem?_eq_none hge] at hh; cases hh
    omega
end Stab
end Go.Proofs.Ytdcchejehomicaa
