import Derived.Test.YtkcpjndelcfmhaaDoorOwn
namespace Go
open Go.RowKit Go.GrowR
set_option linter.unusedVariables false
set_option linter.unusedSimpArgs false
/-! a block of floats that can be written -/
theorem cell_ltH {w : World} {a : Addr} {v : Value} (h : w.cell? a = some v) : a.block < w.heap.size := by
  rcases Nat.lt_or_ge a.block w.heap.size with h1 | h1
  · exact h1
  · unfold World.cell? at h
    rw [Array.getElem?_eq_none h1] at h
    simp at h
theorem frozUp {w w' : World} {b o : Nat} (h : b < w.heap.size) (hg : Grow w w') : w'.frozen? ⟨b, o, none⟩ = w.frozen? ⟨b, o, none⟩ := by
  unfold World.frozen?
  rw [hg.block b h]
def FB (b : Nat) (xs : List Nat) (w : World) : Prop := b < w.heap.size ∧ ∀ (i x : Nat), xs[i]? = some x → w.cell? ⟨b, i, none⟩ = some (.float .f64 x) ∧ w.frozen? ⟨b, i, none⟩ = false
theorem FB.up {b : Nat} {xs : List Nat} : Up (FB b xs) := fun w w' h hg => ⟨Nat.lt_of_lt_of_le h.1 hg.size, fun i x hi => ⟨up_cell (h.2 i x hi).1 hg, (frozUp h.1 hg).trans (h.2 i x hi).2⟩⟩
theorem FB.upX {b : Nat} {xs : List Nat} {S : Nat → Prop} {Y : (World → Prop) → Prop} (hS : ¬ S b) : UpR (GX S Y) (FB b xs) := fun w w' h hg => ⟨Nat.lt_of_lt_of_le h.1 hg.size, fun i x hi => ⟨(hg.cell _ _ h.1 hS).trans (h.2 i x hi).1, (hg.froz _ _ h.1).trans (h.2 i x hi).2⟩⟩
theorem FB.other {b : Nat} {xs : List Nat} {w : World} (h : FB b xs w) {p : Addr} (hp : p.block ≠ b) (u : Value) : FB b xs (w.setCell p u) :=
  ⟨by simpa [World.setCell] using h.1, fun i x hi => ⟨by rw [World.cell?_setCell_other _ _ _ _ (fun e => hp (by rw [e]))]; exact (h.2 i x hi).1, by rw [World.frozen?_setCell]; exact (h.2 i x hi).2⟩⟩
theorem FB.set {b : Nat} {xs : List Nat} {w : World} (h : FB b xs w) {j : Nat} (z : Nat) : FB b (xs.set j z) (w.setCell ⟨b, j, none⟩ (.float .f64 z)) :=
  ⟨by simpa [World.setCell] using h.1, fun i x hi => by
    rw [List.getElem?_set] at hi
    by_cases hj : j = i
    · subst hj
      rw [if_pos rfl] at hi
      split at hi
      · next hl =>
        cases hi
        obtain ⟨h1, h2⟩ := h.2 j xs[j] (by simp [hl])
        exact ⟨World.cell?_setCell_same _ _ _ h1, by rw [World.frozen?_setCell]; exact h2⟩
      · cases hi
    · rw [if_neg hj] at hi
      exact ⟨by rw [World.cell?_setCell_other _ _ _ _ (fun e => hj (by cases e; rfl))]; exact (h.2 i x hi).1, by rw [World.frozen?_setCell]; exact (h.2 i x hi).2⟩⟩
theorem FB.fsl {b c : Nat} {xs : List Nat} {w : World} (h : FB b xs w) (hc : xs.length ≤ c) : FSl (.slice (some ⟨b, 0, none⟩) xs.length c) xs w :=
  ⟨_, _, rfl, hc, .inr ⟨b, 0, rfl, fun i x hi => by rw [Nat.zero_add]; exact (h.2 i x hi).1⟩⟩
theorem froz_row {w : World} {g : Nat} {cur : Array Value} {e : TypeId} {i : Nat} (hh : w.heap[g]? = some (.cells cur e (0, 0))) : w.frozen? ⟨g, i, none⟩ = false := by
  unfold World.frozen?
  rw [hh]
  simp
theorem VOwn.fb {e : TypeId} {B : Nat} {v : Value} {xs : List Nat} {w : World} (h : VOwn e B v (xs.map (.float .f64)) w) (hn : 0 < xs.length) : ∃ b c, v = .slice (some ⟨b, 0, none⟩) xs.length c ∧ xs.length ≤ c ∧ B ≤ b ∧ FB b xs w := by
  rcases h.2 with ⟨rfl, h0⟩ | ⟨g, cap, cur, rfl, hb, hh, hnn, hm, hs, ht⟩
  · simp at h0; subst h0; simp at hn
  · refine ⟨g, cap, by simp, by simpa using hnn, hb, ?_, fun i x hi => ⟨?_, froz_row hh⟩⟩
    · rcases Nat.lt_or_ge g w.heap.size with h1 | h1
      · exact h1
      · rw [Array.getElem?_eq_none h1] at hh; cases hh
    · rw [cell_of_row w g _ cur e (0, 0) hh]
      have h1 : (xs.map (Value.float .f64))[i]? = some (.float .f64 x) := by rw [List.getElem?_map, hi]; rfl
      rw [← ht, List.getElem?_take] at h1
      split at h1
      · simpa using h1
      · cases h1
theorem VOwn.setNe {e : TypeId} {B : Nat} {v : Value} {xs : List Value} {w : World} (h : VOwn e B v xs w) {p : Addr} (hp : ∀ g, v.ownBlock = some g → g ≠ p.block) (u : Value) : VOwn e B v xs (w.setCell p u) := by
  refine ⟨h.1, ?_⟩
  rcases h.2 with h | ⟨g, cap, cur, rfl, hb, hh, hr⟩
  · exact .inl h
  · refine .inr ⟨g, cap, cur, rfl, hb, ?_, hr⟩
    rw [Below.heap_setCell _ _ _ _ (fun e => hp g rfl e)]; exact hh
theorem own_ltH {e : TypeId} {B : Nat} {v : Value} {xs : List Value} {w : World} (h : VOwn e B v xs w) : ∀ g, v.ownBlock = some g → g < w.heap.size := fun g hg => (World.ownsRow.lt h g hg).2
/-- what was there up to block B is as it was -/
abbrev GB (B : Nat) : World → World → Prop := GX (fun k => B ≤ k) (fun _ => False)
theorem gbSet {B : Nat} {w w' : World} {p : Addr} (h : GB B w w') (hp : B ≤ p.block) (u : Value) : GB B w (w'.setCell p u) := h.trans (GX.setCell _ hp (fun X hX => hX.elim))
theorem gbGrow {B : Nat} {w w' w2 : World} (h : GB B w w') (hg : Grow w' w2) : GB B w w2 := h.trans (GX.of_grow (fun _ hX => hX.elim) hg)
theorem gb_grow {B : Nat} {w w2 w' : World} (h : GB B w2 w') (hw : Grow w w2) (hB : w.heap.size ≤ B) : Grow w w' := h.grow hw (fun k hk => Nat.le_trans hB hk)
theorem gbKeep {B : Nat} {w w' : World} (hg : GB B w w') {b o : Nat} {v : Value} (h : w.cell? ⟨b, o, none⟩ = some v) (hb : b < B) : w'.cell? ⟨b, o, none⟩ = some v := by
  rw [hg.cell _ _ (cell_ltH h) (show ¬ B ≤ b by omega)]; exact h
theorem gbFroz {B : Nat} {w w' : World} (hg : GB B w w') {b o : Nat} {f : Bool} (h : w.frozen? ⟨b, o, none⟩ = f) (hb : b < w.heap.size) : w'.frozen? ⟨b, o, none⟩ = f := (hg.froz _ _ hb).trans h
theorem FCells.upB {B : Nat} {w w' : World} {b o : Nat} {xs : List Nat} (h : FCells w b o xs) (hg : GB B w w') (hb : b < B) : FCells w' b o xs := fun i x hi => by
  have h1 := h i x hi
  rw [hg.cell _ _ (cell_ltH h1) (show ¬ B ≤ b by omega)]; exact h1
end Go
