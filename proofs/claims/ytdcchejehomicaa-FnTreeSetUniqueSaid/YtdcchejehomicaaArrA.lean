import Derived.Test.YtdcchejehomicaaStabA
import Derived.Test.YtdcchejehomicaaRow
import Derived.Test.YtdcchejehomicaaSl
namespace Go.Proofs.Ytdcchejehomicaa
open Go.ChangeShapes Go.WideShapes Go.ChangeAt Go.RowKit Go.GrowR
set_option linter.unusedVariables false
set_option linter.unusedSimpArgs false
/-! rows of a call's own whose elements hang on blocks of their own: made whole and filled, or appended to -/
/-- block b of n cells under way: the first q of them hold values of which F is known -/
structure Arr (w : World) (b n q : Nat) (F : Nat → Value → World → Prop) (wr : World) : Prop where
  hb : w.heap.size ≤ b
  c : ∀ i, i < n → ∃ v, wr.cell? ⟨b, i, none⟩ = some v
  f : ∀ o, wr.frozen? ⟨b, o, none⟩ = false
  g : Grow w wr
  s : ∀ i, i < q → ∃ u lo hi, wr.cell? ⟨b, i, none⟩ = some u ∧ b < lo ∧ hi ≤ wr.heap.size ∧ Stab lo hi (F i u) wr
theorem Arr.step {w : World} {b n q : Nat} {F : Nat → Value → World → Prop} {wr w2 : World} {u : Value} (h : Arr w b n q F wr) (hqn : q < n) (hbl : b < wr.heap.size) (h2 : Grow wr w2) (hs : Stab wr.heap.size w2.heap.size (F q u) w2) : Arr w b n (q + 1) F (w2.setCell ⟨b, q, none⟩ u) := by
  have s2 := h2.size
  have hsz : (w2.setCell ⟨b, q, none⟩ u).heap.size = w2.heap.size := by simp [World.setCell]
  obtain ⟨v0, hv0⟩ := h.c q hqn
  have kept : ∀ k, k ≠ b → (w2.setCell ⟨b, q, none⟩ u).heap[k]? = w2.heap[k]? := fun k hk => Below.heap_setCell _ _ _ _ (fun e => hk (by first | exact e | exact e.symm))
  refine ⟨h.hb, fun i hi => ?_, fun o => by rw [World.frozen?_setCell, grow_frozen h2 b o hbl]; exact h.f o, (h.g.trans h2).setCell (by have := h.hb; simpa using this) _, fun i hi => ?_⟩
  · by_cases e : i = q
    · subst e; exact ⟨u, World.cell?_setCell_same _ _ _ (up_cell hv0 h2)⟩
    · obtain ⟨v, hv⟩ := h.c i hi
      exact ⟨v, by rw [World.cell?_setCell_other _ _ _ _ (fun e' => e (by cases e'; rfl))]; exact up_cell hv h2⟩
  · by_cases e : i = q
    · subst e
      exact ⟨u, wr.heap.size, w2.heap.size, World.cell?_setCell_same _ _ _ (up_cell hv0 h2), hbl, by omega, hs.move fun k k1 k2 => kept k (by omega)⟩
    · obtain ⟨u', lo, hi', a1, a2, a3, a4⟩ := h.s i (by omega)
      exact ⟨u', lo, hi', by rw [World.cell?_setCell_other _ _ _ _ (fun e' => e (by cases e'; rfl))]; exact up_cell a1 h2, a2, by omega, a4.move fun k k1 k2 => by rw [kept k (by omega), h2.block k (by omega)]⟩
theorem Arr.fin {α : Type} {E : α → Value → World → Prop} {xs : List α} {w : World} {b : Nat} {F : Nat → Value → World → Prop} {wr : World} (h : Arr w b xs.length xs.length F wr) (hbl : b < wr.heap.size) (hF : ∀ (i : Nat) (x : α) (u : Value) (w' : World), xs[i]? = some x → F i u w' → E x u w') (c : Nat) (hc : xs.length ≤ c) : Stab w.heap.size wr.heap.size (SlE E (.slice (some ⟨b, 0, none⟩) xs.length c) xs) wr := fun w2 hw => by
  obtain ⟨us, hul, hus⟩ := choose_listα (p := fun i u => w2.cell? ⟨b, i, none⟩ = some u ∧ F i u w2) xs.length (fun i hi => by
    obtain ⟨u, lo, hi', a1, a2, a3, a4⟩ := h.s i hi
    exact ⟨u, (World.cell?_of_block (w := wr) (hw b h.hb hbl)).trans a1, a4 w2 fun k k1 k2 => hw k (by have := h.hb; omega) (by omega)⟩)
  refine ⟨us, ⟨_, c, by rw [hul], by omega, .inr ⟨b, 0, rfl, fun i u hi => ?_⟩⟩, hul, fun i u x hu hx => ?_⟩
  · rw [Nat.zero_add]; exact (hus i u hi).1
  · exact hF i x u w2 hx (hus i u hu).2
/-- a row under way that is appended to -/
structure AppI (e : TypeId) (w : World) (V : Value) (us : List Value) (F : Nat → Value → World → Prop) (wr : World) : Prop where
  o : VOwn e w.heap.size V us wr
  g : Grow w wr
  s : ∀ (i : Nat) (u : Value), us[i]? = some u → ∃ lo hi, w.heap.size ≤ lo ∧ hi ≤ wr.heap.size ∧ (∀ g, V.ownBlock = some g → ¬ (lo ≤ g ∧ g < hi)) ∧ Stab lo hi (F i u) wr
theorem AppI.start (e : TypeId) (w : World) (F : Nat → Value → World → Prop) : AppI e w (.slice none 0 0) [] F w := ⟨VOwn.nil, Grow.refl w, fun i u h => by simp at h⟩
theorem AppI.step {e : TypeId} {w : World} {V V' : Value} {us : List Value} {F : Nat → Value → World → Prop} {wr w2 w3 w4 w5 : World} {u : Value} (h : AppI e w V us F wr) (h2 : Grow wr w2) (h3 : Grow w2 w3) (hs : Stab w2.heap.size w3.heap.size (F us.length u) w3) (h4 : Grow w3 w4)
    (ho : VOwn e w.heap.size V' (us ++ [u]) w5) (hg : w4.grownBy w5 V.ownBlock) (hv : V'.ownBlock = V.ownBlock ∨ V'.ownBlock = some w4.heap.size) : AppI e w V' (us ++ [u]) F w5 := by
  have s2 := h2.size; have s3 := h3.size; have s4 := h4.size; have s5 := hg.size
  have hVo : ∀ g, V.ownBlock = some g → w.heap.size ≤ g := h.o.lt
  have hVh : ∀ g, V.ownBlock = some g → g < wr.heap.size := own_ltH h.o
  have hg24 := (h2.trans h3).trans h4
  have hw := h.g.size
  refine ⟨ho, Below.grown (h.g.trans hg24) hg (by omega) hVo, fun i u' hi => ?_⟩
  rw [List.getElem?_append] at hi
  split at hi
  · obtain ⟨lo, hi', a1, a2, a3, a4⟩ := h.s i u' hi
    refine ⟨lo, hi', a1, by omega, fun g hg' => ?_, a4.move fun k k1 k2 => by rw [hg.block k (by omega) (fun e => a3 k e.symm ⟨k1, k2⟩), hg24.block k (by omega)]⟩
    rcases hv with e | e
    · exact a3 g (e ▸ hg')
    · rw [e] at hg'; cases hg'; omega
  · next hlt =>
    rw [List.getElem?_singleton] at hi
    split at hi
    · next h0 =>
      cases hi
      obtain rfl : i = us.length := by omega
      refine ⟨w2.heap.size, w3.heap.size, by omega, by omega, fun g hg' => ?_, hs.move fun k k1 k2 => by rw [hg.block k (by omega) (fun e => by have := hVh k e.symm; omega), h4.block k (by omega)]⟩
      rcases hv with e | e
      · have := hVh g (e ▸ hg'); omega
      · rw [e] at hg'; cases hg'; omega
    · cases hi
theorem AppI.fin {α : Type} {E : α → Value → World → Prop} {xs : List α} {e : TypeId} {w : World} {V : Value} {us : List Value} {F : Nat → Value → World → Prop} {wr : World} (h : AppI e w V us F wr) (hl : us.length = xs.length) (hF : ∀ (i : Nat) (x : α) (u : Value) (w' : World), xs[i]? = some x → F i u w' → E x u w') : Stab w.heap.size wr.heap.size (SlE E V xs) wr := fun w2 hw =>
  ⟨us, VOwn.sl (Stab.own h.o (Nat.le_refl _) (Nat.le_refl _) w2 hw), hl, fun i u x hu hx => by
    obtain ⟨lo, hi, a1, a2, a3, a4⟩ := h.s i u hu
    exact hF i x u w2 hx (a4 w2 fun k k1 k2 => hw k (by omega) (by omega))⟩
theorem AppI.ex {e : TypeId} {w : World} {V : Value} {us : List Value} {F : Nat → Value → World → Prop} {wr : World} (h : AppI e w V us F wr) : ∃ A n c, V = .slice A n c := VOwn.isSl h.o
end Go.Proofs.Ytdcchejehomicaa
