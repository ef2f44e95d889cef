import Derived.Test.YtdcchejehomicaaOwn
namespace Go
open Go.RowKit Go.GrowR
set_option linter.unusedVariables false
set_option linter.unusedSimpArgs false
/-! values that read, one by one, as data; memory in which only the call's own rows of some types have turned -/
/-- from block B on, blocks of the element types T may have turned; all others are as they were -/
structure ByT (T : List TypeId) (B : Nat) (a b : World) : Prop where
  os : b.os = a.os
  tape : b.tape = a.tape
  output : b.output = a.output
  size : a.heap.size ≤ b.heap.size
  block : ∀ k, k < a.heap.size → (k < B ∨ ∀ c e f, a.heap[k]? = some (.cells c e f) → e ∉ T) → b.heap[k]? = a.heap[k]?
namespace ByT
variable {T : List TypeId} {B : Nat} {a b c : World}
theorem refl (a : World) : ByT T B a a := ⟨rfl, rfl, rfl, Nat.le_refl _, fun _ _ _ => rfl⟩
theorem trans (h : ByT T B a b) (k : ByT T B b c) : ByT T B a c :=
  ⟨k.os.trans h.os, k.tape.trans h.tape, k.output.trans h.output, Nat.le_trans h.size k.size, fun i hi hx => by
    have h1 := h.block i hi hx
    rw [k.block i (Nat.lt_of_lt_of_le hi h.size) (hx.imp id fun h2 c e f hc => h2 c e f (by rw [← h1]; exact hc)), h1]⟩
theorem of_grow (h : Grow a b) : ByT T B a b := ⟨h.os, h.tape, h.output, h.size, fun k hk _ => h.block k hk⟩
theorem grow (h : ByT T a.heap.size a b) : Grow a b := ⟨h.os, h.tape, h.output, h.size, fun k hk => h.block k hk (.inl hk)⟩
theorem below {w : World} (h : ByT T B a b) (hw : Grow w a) (hB : w.heap.size ≤ B) : Grow w b :=
  ⟨h.os.trans hw.os, h.tape.trans hw.tape, h.output.trans hw.output, Nat.le_trans hw.size h.size, fun k hk => by
    rw [h.block k (Nat.lt_of_lt_of_le hk hw.size) (.inl (Nat.lt_of_lt_of_le hk hB))]; exact hw.block k hk⟩
theorem mono {B' : Nat} (h : ByT T B a b) (hB : B' ≤ B) : ByT T B' a b := ⟨h.os, h.tape, h.output, h.size, fun k hk hx => h.block k hk (hx.imp (fun h => Nat.lt_of_lt_of_le h hB) id)⟩
theorem sub {T' : List TypeId} (h : ByT T B a b) (hT : ∀ e ∈ T, e ∈ T') : ByT T' B a b := ⟨h.os, h.tape, h.output, h.size, fun k hk hx => h.block k hk (hx.imp id fun h2 c e f hc he => h2 c e f hc (hT e he))⟩
theorem of_grown {e : TypeId} {v : Value} {xs : List Value} (h : VOwn e B v xs a) (hg : a.grownBy b v.ownBlock) (he : e ∈ T) : ByT T B a b :=
  ⟨hg.os, hg.tape, hg.output, hg.size, fun k hk hx => hg.block k hk fun hn => by
    rcases h.2 with ⟨rfl, _⟩ | ⟨g, cap, cur, rfl, hb, hh, hr⟩
    · simp [Value.ownBlock] at hn
    · have : k = g := by simpa [Value.ownBlock] using hn
      subst this
      rcases hx with hx | hx
      · omega
      · exact hx _ _ _ hh he⟩
/-- a store into a row of the call's own -/
theorem of_set {p : Addr} (u : Value) (hp : B ≤ p.block) {c : Array Value} {e : TypeId} {f : Nat × Nat} (hh : a.heap[p.block]? = some (.cells c e f)) (he : e ∈ T) : ByT T B a (a.setCell p u) :=
  ⟨rfl, rfl, rfl, by simp [World.setCell], fun k hk hx => by
    refine Below.heap_setCell _ _ _ _ fun hn => ?_
    subst hn
    rcases hx with hx | hx
    · omega
    · exact hx _ _ _ hh he⟩
theorem cell (h : ByT T B a b) (hB : a.heap.size ≤ B) : ∀ k o, k < a.heap.size → b.cell? ⟨k, o, none⟩ = a.cell? ⟨k, o, none⟩ := fun k o hk => World.cell?_of_block (w := a) (h.block k hk (.inl (Nat.lt_of_lt_of_le hk hB)))
end ByT
/-- a fact that stays while rows of the types T turn -/
def UpT (T : List TypeId) (B : Nat) (X : World → Prop) : Prop := ∀ w w', X w → ByT T B w w' → X w'
theorem UpT.up {T : List TypeId} {B : Nat} {X : World → Prop} (h : UpT T B X) : Up X := fun _ _ hx hg => h _ _ hx (.of_grow hg)
theorem VOwn.upT {e : TypeId} {B B' : Nat} {v : Value} {xs : List Value} {T : List TypeId} (he : e ∉ T) : UpT T B' (VOwn e B v xs) := fun w w' h hg => by
  refine ⟨h.1, ?_⟩
  rcases h.2 with h | ⟨g, cap, cur, rfl, hb, hh, hr⟩
  · exact .inl h
  · refine .inr ⟨g, cap, cur, rfl, hb, ?_, hr⟩
    rw [hg.block g ?_ (.inr fun c e' f hc => by rw [hh] at hc; cases hc; exact he)]; exact hh
    rcases Nat.lt_or_ge g w.heap.size with hlt | hge
    · exact hlt
    · rw [Array.getElem?_eq_none hge] at hh; cases hh
section
variable {α : Type} {E : α → Value → World → Prop}
def All2 (E : α → Value → World → Prop) (us : List Value) (xs : List α) (w : World) : Prop := us.length = xs.length ∧ ∀ (i : Nat) (u : Value) (x : α), us[i]? = some u → xs[i]? = some x → E x u w
theorem All2.imp {us : List Value} {xs : List α} {w : World} {F : α → Value → World → Prop} {w' : World} (h : All2 E us xs w) (hE : ∀ x u, E x u w → F x u w') : All2 F us xs w' := ⟨h.1, fun i u x hu hx => hE _ _ (h.2 i u x hu hx)⟩
theorem All2.up {us : List Value} {xs : List α} (hE : ∀ x u, Up (E x u)) : Up (All2 E us xs) := fun _ _ h hg => h.imp fun x u hx => hE x u _ _ hx hg
theorem All2.upT {us : List Value} {xs : List α} {T : List TypeId} {B : Nat} (hE : ∀ x u, UpT T B (E x u)) : UpT T B (All2 E us xs) := fun _ _ h hg => h.imp fun x u hx => hE x u _ _ hx hg
theorem All2.nil {w : World} : All2 E [] [] w := ⟨rfl, by simp⟩
theorem All2.snoc {us : List Value} {xs : List α} {w : World} {u : Value} {x : α} (h : All2 E us xs w) (hx : E x u w) : All2 E (us ++ [u]) (xs ++ [x]) w := by
  obtain ⟨hl, h⟩ := h
  refine ⟨by simp [hl], fun i z y hz hy => ?_⟩
  rw [List.getElem?_append] at hz hy
  split at hz
  · next hi => rw [if_pos (by omega)] at hy; exact h i z y hz hy
  · next hi =>
    rw [if_neg (by omega)] at hy
    rw [List.getElem?_singleton] at hz hy
    split at hz
    · next h0 => rw [if_pos (by omega)] at hy; cases hz; cases hy; exact hx
    · cases hz
theorem All2.at {us : List Value} {xs : List α} {w : World} (h : All2 E us xs w) {k : Nat} {x : α} (hx : xs[k]? = some x) : ∃ u, us[k]? = some u ∧ E x u w := by
  have hk : k < us.length := by rw [h.1]; exact (List.getElem?_eq_some_iff.1 hx).1
  exact ⟨us[k], by simp [hk], h.2 k _ x (by simp [hk]) hx⟩
/-- a slice of such values -/
def SlE (E : α → Value → World → Prop) (v : Value) (xs : List α) (w : World) : Prop := ∃ us, VSl v us w ∧ All2 E us xs w
theorem SlE.up {v : Value} {xs : List α} (hE : ∀ x u, Up (E x u)) : Up (SlE E v xs) := fun _ _ ⟨us, h1, h2⟩ hg => ⟨us, VSl.up _ _ h1 hg, All2.up hE _ _ h2 hg⟩
/-- a row of such values, of the call's own -/
def OwnE (e : TypeId) (B : Nat) (E : α → Value → World → Prop) (v : Value) (xs : List α) (w : World) : Prop := ∃ us, VOwn e B v us w ∧ All2 E us xs w
theorem OwnE.upT {e : TypeId} {B B' : Nat} {v : Value} {xs : List α} {T : List TypeId} (he : e ∉ T) (hE : ∀ x u, UpT T B' (E x u)) : UpT T B' (OwnE e B E v xs) := fun _ _ ⟨us, h1, h2⟩ hg => ⟨us, VOwn.upT he _ _ h1 hg, All2.upT hE _ _ h2 hg⟩
theorem OwnE.up {e : TypeId} {B : Nat} {v : Value} {xs : List α} (hE : ∀ x u, Up (E x u)) : Up (OwnE e B E v xs) := fun _ _ ⟨us, h1, h2⟩ hg => ⟨us, VOwn.up _ _ h1 hg, All2.up hE _ _ h2 hg⟩
theorem OwnE.sl {e : TypeId} {B : Nat} {v : Value} {xs : List α} {w : World} (h : OwnE e B E v xs w) : SlE E v xs w := let ⟨us, h1, h2⟩ := h; ⟨us, h1.sl, h2⟩
theorem OwnE.mono {e : TypeId} {B B' : Nat} {v : Value} {xs : List α} {w : World} (h : OwnE e B E v xs w) (hB : B' ≤ B) : OwnE e B' E v xs w := let ⟨us, h1, h2⟩ := h; ⟨us, h1.mono hB, h2⟩
theorem OwnE.nil {e : TypeId} {B : Nat} {w : World} : OwnE e B E (.slice none 0 0) [] w := ⟨[], VOwn.nil, All2.nil⟩
theorem SlE.form {v : Value} {xs : List α} {w : World} (h : SlE E v xs w) : ∃ A c, v = .slice A xs.length c ∧ xs.length ≤ c ∧ (xs = [] ∨ ∃ b o, A = some ⟨b, o, none⟩ ∧ ∀ i x, xs[i]? = some x → ∃ u, w.cell? ⟨b, o + i, none⟩ = some u ∧ E x u w) := by
  obtain ⟨us, ⟨A, c, rfl, hc, h⟩, hl, h2⟩ := h
  refine ⟨A, c, by rw [hl], by omega, ?_⟩
  rcases h with rfl | ⟨b, o, rfl, h⟩
  · exact .inl (List.eq_nil_of_length_eq_zero hl.symm)
  · refine .inr ⟨b, o, rfl, fun i x hx => ?_⟩
    have hk : i < us.length := by rw [hl]; exact (List.getElem?_eq_some_iff.1 hx).1
    exact ⟨us[i], h i _ (by simp [hk]), h2 i _ x (by simp [hk]) hx⟩
end
theorem FSSl.e {v : Value} {xss : List (List Nat)} {w : World} (h : SlE (fun xs u w => FSl u xs w) v xss w) : FSSl v xss w := by
  obtain ⟨A, c, rfl, hc, h⟩ := h.form
  exact ⟨A, c, rfl, hc, h⟩
end Go
