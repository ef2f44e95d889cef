import Derived.Test.YtdcchejehomicaaFB
import Derived.Test.YtdcchejehomicaaStabA
namespace Go.Proofs.Ytdcchejehomicaa
open Go.RowKit Go.GrowR
set_option linter.unusedVariables false
set_option linter.unusedSimpArgs false
/-- but for the blocks F, what was there is as it was -/
structure FrF (F : List Nat) (a b : World) : Prop where
  os : b.os = a.os
  tape : b.tape = a.tape
  output : b.output = a.output
  size : a.heap.size ≤ b.heap.size
  block : ∀ k, k < a.heap.size → k ∉ F → b.heap[k]? = a.heap[k]?
namespace FrF
variable {F F' : List Nat} {a b c : World}
theorem refl (a : World) : FrF F a a := ⟨rfl, rfl, rfl, Nat.le_refl _, fun _ _ _ => rfl⟩
theorem of_grow (h : Grow a b) : FrF F a b := ⟨h.os, h.tape, h.output, h.size, fun k hk _ => h.block k hk⟩
theorem trans (h : FrF F a b) (k : FrF F' b c) (hF : ∀ x ∈ F', x ∈ F ∨ a.heap.size ≤ x) : FrF F a c :=
  ⟨k.os.trans h.os, k.tape.trans h.tape, k.output.trans h.output, Nat.le_trans h.size k.size, fun i hi hx => by
    rw [k.block i (Nat.lt_of_lt_of_le hi h.size) (fun hm => (hF i hm).elim hx (fun h2 => by omega))]; exact h.block i hi hx⟩
theorem mono (h : FrF F a b) (hF : ∀ x ∈ F, x ∈ F' ∨ a.heap.size ≤ x) : FrF F' a b := ⟨h.os, h.tape, h.output, h.size, fun k hk hx => h.block k hk fun hm => (hF k hm).elim hx (fun h2 => by omega)⟩
theorem then_grow (h : FrF F a b) (k : Grow b c) : FrF F a c := h.trans (F' := []) (of_grow k) (fun x hx => by cases hx)
theorem set {p : Addr} (h : FrF F a b) (hp : p.block ∈ F ∨ a.heap.size ≤ p.block) (u : Value) : FrF F a (b.setCell p u) :=
  ⟨h.os, h.tape, h.output, by simpa [World.setCell] using h.size, fun k hk hx => by
    rw [Below.heap_setCell _ _ _ _ (fun e => by subst e; rcases hp with hp | hp; exact hx hp; omega)]; exact h.block k hk hx⟩
theorem grow {w : World} (h : FrF F a b) (hw : Grow w a) (hF : ∀ k ∈ F, w.heap.size ≤ k) : Grow w b :=
  ⟨h.os.trans hw.os, h.tape.trans hw.tape, h.output.trans hw.output, Nat.le_trans hw.size h.size, fun k hk => by
    rw [h.block k (Nat.lt_of_lt_of_le hk hw.size) (fun hm => by have := hF k hm; omega)]; exact hw.block k hk⟩
theorem cell (h : FrF F a b) {k o : Nat} {v : Value} (hc : a.cell? ⟨k, o, none⟩ = some v) (hk : k ∉ F) : b.cell? ⟨k, o, none⟩ = some v := (World.cell?_of_block (w := a) (h.block k (cell_ltH hc) hk)).trans hc
theorem froz (h : FrF F a b) {k o : Nat} {f : Bool} (hc : a.frozen? ⟨k, o, none⟩ = f) (hl : k < a.heap.size) (hk : k ∉ F) : b.frozen? ⟨k, o, none⟩ = f := (World.frozen?_of_block (w := a) (h.block k hl hk)).trans hc
end FrF
theorem set_far {p : Addr} {u : Value} {w : World} {k : Nat} (h : k ≠ p.block) : (w.setCell p u).heap[k]? = w.heap[k]? := Below.heap_setCell _ _ _ _ h
theorem far_cell {p : Addr} {k o : Nat} {u v : Value} {w : World} (h : w.cell? ⟨k, o, none⟩ = some v) (hp : p ≠ ⟨k, o, none⟩) : (w.setCell p u).cell? ⟨k, o, none⟩ = some v := by rw [World.cell?_setCell_other _ _ _ _ hp]; exact h
end Go.Proofs.Ytdcchejehomicaa
