import Derived.Test.YtkcpjndelcfmhaaDoorRows
import Derived.Test.YtkcpjndelcfmhaaDoorOwn
import Derived.Test.YtkcpjndelcfmhaaDoorFB
import Derived.Test.YtkcpjndelcfmhaaDoorHeadH
import Derived.Deep.QuietTactic
import Derived.BigQuiet
import Derived.WalkKit
import Derived.WalkLawsBesides
import Derived.WalkSpells
import Derived.ProofKit
import Derived.Lib.Hide
import Derived.Laws.Externs
import Derived.OwnWalk
import Derived.ArgAppend
import Derived.RegionTactic
import Derived.BigRegion
import Derived.Deep.Cut
namespace Go.Proofs.YtkcpjndelcfmhaaDoor
open Go.ChangeShapes Go.WideShapes Go.ChangeAt Go.RowKit Go.GrowR
set_option linter.unusedVariables false
set_option linter.unusedSimpArgs false

/-- a block of whole numbers that can be written -/
def IB (g : Nat) (xs : List Int) (w : World) : Prop := g < w.heap.size ∧ ∀ (i : Nat) (x : Int), xs[i]? = some x → w.cell? ⟨g, i, none⟩ = some (.int .i64 x) ∧ w.frozen? ⟨g, i, none⟩ = false
theorem IB.up {g : Nat} {xs : List Int} : Up (IB g xs) := fun w w' h hg => ⟨Nat.lt_of_lt_of_le h.1 hg.size, fun i x hi => ⟨up_cell (h.2 i x hi).1 hg, (frozUp h.1 hg).trans (h.2 i x hi).2⟩⟩
theorem IB.set {g : Nat} {xs : List Int} {w : World} (h : IB g xs w) {j : Nat} (z : Int) : IB g (xs.set j z) (w.setCell ⟨g, j, none⟩ (.int .i64 z)) :=
  ⟨by simpa [World.setCell] using h.1, fun i x hi => by
    rw [List.getElem?_set] at hi
    by_cases hj : j = i
    · subst hj
      rw [if_pos rfl] at hi
      split at hi
      · next hl =>
        cases hi
        obtain ⟨h1, h2⟩ := h.2 j xs[j] (by simp [hl])
        exact ⟨World.cell?_setCell_same _ _ _ h1, by rw [World.frozen?_setCell]; exact h2⟩
      · cases hi
    · rw [if_neg hj] at hi
      exact ⟨by rw [World.cell?_setCell_other _ _ _ _ (fun e => hj (by cases e; rfl))]; exact (h.2 i x hi).1, by rw [World.frozen?_setCell]; exact (h.2 i x hi).2⟩⟩
abbrev G1 (g : Nat) : World → World → Prop := GX (fun k => k = g) (fun _ => False)
theorem G1.of {g : Nat} {a b : World} (h : Grow a b) : G1 g a b := GX.of_grow (fun _ hX => hX.elim) h
theorem G1.set {g : Nat} {w w' : World} {p : Addr} (h : G1 g w w') (hp : p.block = g) (u : Value) : G1 g w (w'.setCell p u) := h.trans (GX.setCell _ hp (fun X hX => hX.elim))
/-- a turn: the row has other numbers, or, all 0 and turned within nothing, the same -/
def TuQ (g m : Nat) (z : Bool) (w : World) (e : Ending) (w' : World) : Prop := e = .returned (.tuple #[]) ∧ G1 g w w' ∧ ∃ ys : List Int, ys.length = m ∧ IB g ys w' ∧ (z = true → ys = List.replicate m 0)
theorem zero_list {xs : List Int} {m : Nat} (hl : xs.length = m) (hz : ∀ x ∈ xs, x = 0) : xs = List.replicate m 0 := by rw [← hl]; exact List.eq_replicate_iff.2 ⟨rfl, hz⟩
theorem zero_set {xs : List Int} {m : Nat} (hl : xs.length = m) (hz : ∀ x ∈ xs, x = 0) (i j : Nat) : (xs.set i 0).set j 0 = List.replicate m 0 := by
  rw [zero_list hl hz]; simp
end Go.Proofs.YtkcpjndelcfmhaaDoor
