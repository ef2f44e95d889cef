import Derived.Test.YtemobphkgbhhhaaKParts
import Derived.Test.YtemobphkgbhhhaaRowsC
import Derived.BigQuiet
import Derived.Deep.QuietTactic
namespace Go.Proofs.Ytemobphkgbhhhaa
open Go.ChangeShapes Go.WideShapes Go.ChangeAt Go.RowKit Go.GrowR
set_option linter.unusedVariables false
set_option linter.unusedSimpArgs false

/-- a fact that hangs on two ranges of blocks *)-/
def Stab2 (a b lo hi : Nat) (X : World → Prop) (w : World) : Prop := ∀ w' : World, (∀ k, (a ≤ k ∧ k < b) ∨ (lo ≤ k ∧ k < hi) → w'.heap[k]? = w.heap[k]?) → X w'
theorem Stab2.move {a b lo hi : Nat} {X : World → Prop} {w w' : World} (h : Stab2 a b lo hi X w) (hw : ∀ k, (a ≤ k ∧ k < b) ∨ (lo ≤ k ∧ k < hi) → w'.heap[k]? = w.heap[k]?) : Stab2 a b lo hi X w' := fun w2 h2 => h w2 fun k h3 => (h2 k h3).trans (hw k h3)
/-- a row under way whose elements hang on blocks ahead of it, too *)-/
structure AppJ (e : TypeId) (a : Nat) (w : World) (V : Value) (us : List Value) (F : Nat → Value → World → Prop) (wr : World) : Prop where
  o : VOwn e w.heap.size V us wr
  g : Grow w wr
  s : ∀ (i : Nat) (u : Value), us[i]? = some u → ∃ lo hi, w.heap.size ≤ lo ∧ hi ≤ wr.heap.size ∧ (∀ g, V.ownBlock = some g → ¬ (lo ≤ g ∧ g < hi)) ∧ Stab2 a w.heap.size lo hi (F i u) wr
theorem AppJ.start (e : TypeId) (a : Nat) (w : World) (F : Nat → Value → World → Prop) : AppJ e a w (.slice none 0 0) [] F w := ⟨VOwn.nil, Grow.refl w, fun i u h => by simp at h⟩
theorem AppJ.step {e : TypeId} {a : Nat} {w : World} {V V' : Value} {us : List Value} {F : Nat → Value → World → Prop} {wr w2 w3 w4 w5 : World} {u : Value} (h : AppJ e a w V us F wr) (h2 : Grow wr w2) (h3 : Grow w2 w3) (hs : Stab2 a w.heap.size w2.heap.size w3.heap.size (F us.length u) w3) (h4 : Grow w3 w4)
    (ho : VOwn e w.heap.size V' (us ++ [u]) w5) (hg : w4.grownBy w5 V.ownBlock) (hv : V'.ownBlock = V.ownBlock ∨ V'.ownBlock = some w4.heap.size) : AppJ e a w V' (us ++ [u]) F w5 := by
  have s2 := h2.size; have s3 := h3.size; have s4 := h4.size; have s5 := hg.size
  have hVo : ∀ g, V.ownBlock = some g → w.heap.size ≤ g := h.o.lt
  have hVh : ∀ g, V.ownBlock = some g → g < wr.heap.size := own_ltH h.o
  have hg24 := (h2.trans h3).trans h4
  have hw := h.g.size
  refine ⟨ho, Below.grown (h.g.trans hg24) hg (by omega) hVo, fun i u' hi => ?_⟩
  rw [List.getElem?_append] at hi
  split at hi
  · obtain ⟨lo, hi', a1, a2, a3, a4⟩ := h.s i u' hi
    refine ⟨lo, hi', a1, by omega, fun g hg' => ?_, a4.move fun k hk => by rw [hg.block k (by omega) (fun e => by have := hVo k e.symm; rcases hk with hk | hk; omega; exact a3 k e.symm hk), hg24.block k (by omega)]⟩
    rcases hv with e | e
    · exact a3 g (e ▸ hg')
    · rw [e] at hg'; cases hg'; omega
  · next hlt =>
    rw [List.getElem?_singleton] at hi
    split at hi
    · next h0 =>
      cases hi
      obtain rfl : i = us.length := by omega
      refine ⟨w2.heap.size, w3.heap.size, by omega, by omega, fun g hg' => ?_, hs.move fun k hk => by rw [hg.block k (by omega) (fun e => by have := hVh k e.symm; have := hVo k e.symm; omega), h4.block k (by omega)]⟩
      rcases hv with e | e
      · have := hVh g (e ▸ hg'); omega
      · rw [e] at hg'; cases hg'; omega
    · cases hi
theorem AppJ.fin {α : Type} {E : α → Value → World → Prop} {xs : List α} {e : TypeId} {a : Nat} {w : World} {V : Value} {us : List Value} {F : Nat → Value → World → Prop} {wr : World} (h : AppJ e a w V us F wr) (ha : a ≤ w.heap.size) (hl : us.length = xs.length) (hF : ∀ (i : Nat) (x : α) (u : Value) (w' : World), xs[i]? = some x → F i u w' → E x u w') : Stab a wr.heap.size (SlE E V xs) wr := fun w2 hw =>
  ⟨us, VOwn.sl (Stab.own h.o (lo := w.heap.size) (Nat.le_refl _) (Nat.le_refl _) w2 (fun k k1 k2 => hw k (by omega) k2)), hl, fun i u x hu hx => by
    obtain ⟨lo, hi, a1, a2, a3, a4⟩ := h.s i u hu
    have := h.g.size
    exact hF i x u w2 hx (a4 w2 fun k hk => hw k (by omega) (by omega))⟩
def RowsF (b o c s K B : Nat) (lo hi : Nat) (V : Value) (w : World) : Prop := B ≤ lo ∧ hi ≤ w.heap.size ∧ Stab lo hi (VSl V (rowsV b o c s K)) w
theorem RowsF.up {b o c s K B lo hi : Nat} {V : Value} : Up (RowsF b o c s K B lo hi V) := fun _ _ ⟨h1, h2, h3⟩ hg => ⟨h1, Nat.le_trans h2 hg.size, h3.grow hg h2⟩
theorem rows_none (A : Option Addr) (c s : Nat) (w : World) (hs : 1 ≤ s) (hs9 : s ≤ 9) : Calls Try.prog 31 #[.slice A 0 c, .int .i64 s] w fun e w' => e = .returned (.slice none 0 0) ∧ w' = w := by
  have h1 : ¬ ((s : Int) ≤ 0) := by omega
  have h2 : (0 : Int) < (s : Int) := by omega
  have h3 : decide ((s : Int) ≤ 0) = false := by simp; omega
  have h4 : decide (s = 0) = false := by simp; omega
  have h5 : ¬ s = 0 := by omega
  go_enter Try.func31, Try.ntmps31
  go_wp2
  go_loop [5, 6] (fun O i => O = .slice none 0 0 ∧ i = .int .i64 0) (fun _ _ => 0)
  case atStart => exact ⟨rfl, rfl⟩
  case round =>
    obtain ⟨rfl, rfl⟩ := hrel
    go_wp2
    go_ret
    exact ⟨rfl, rfl⟩
def PlaceQ (a a1 : Nat) (rows : List (List Nat)) (w : World) (e : Ending) (w' : World) : Prop := ∃ V, e = .returned V ∧ Grow w w' ∧ Stab2 a a1 w.heap.size w'.heap.size (L1 rows V) w'
theorem l1_of {b o c s : Nat} {rows : List (List Nat)} {V : Value} {w : World} (hv : VSl V (rowsV b o c s rows.length) w) (hr : ∀ r ∈ rows, r.length = s) (hc : rows.length * s ≤ c) (hcell : ∀ (i x : Nat), rows.flatten[i]? = some x → w.cell? ⟨b, o + i, none⟩ = some (.float .f64 x)) : L1 rows V w := by
  refine ⟨_, hv, by rw [rowsV_len], fun i u x hu hx => ?_⟩
  have hil : i < rows.length := (List.getElem?_eq_some_iff.1 hx).1
  have hu' : u = .slice (some ⟨b, o + i * s, none⟩) s (c - i * s) := by
    unfold rowsV at hu
    rw [List.getElem?_map, List.getElem?_range hil] at hu
    cases hu; rfl
  have hxl := hr x (List.mem_of_getElem? hx)
  have hle : (i + 1) * s ≤ rows.length * s := Nat.mul_le_mul_right s hil
  rw [Nat.add_mul, Nat.one_mul] at hle
  rw [hu']
  refine ⟨some ⟨b, o + i * s, none⟩, c - i * s, by rw [hxl], by omega, .inr ⟨b, o + i * s, rfl, fun j y hj => ?_⟩⟩
  have hjl : j < s := by have := (List.getElem?_eq_some_iff.1 hj).1; omega
  have hsp : rows.flatten = (rows.take i).flatten ++ x ++ (rows.drop (i + 1)).flatten := by
    have h1 : rows.drop i = x :: rows.drop (i + 1) := by
      obtain ⟨hq', rfl⟩ := List.getElem?_eq_some_iff.1 hx
      exact List.drop_eq_getElem_cons hq'
    conv => lhs; rw [← List.take_append_drop i rows, h1]
    simp [List.append_assoc]
  have htl : (rows.take i).flatten.length = i * s := by
    rw [flat_len (s := s) (fun r h => hr r (List.mem_of_mem_take h)), List.length_take, Nat.min_eq_left (by omega)]
  have := hcell (i * s + j) y (by rw [hsp, List.append_assoc, List.getElem?_append_right (by omega), htl, List.getElem?_append_left (by have := (List.getElem?_eq_some_iff.1 hj).1; omega), ← hj]; congr 1; omega)
  rwa [← Nat.add_assoc] at this
end Go.Proofs.Ytemobphkgbhhhaa
