import Derived.Test.YtlkoaanagbgpkaaRow
import Derived.Test.YtlkoaanagbgpkaaOctE
import Derived.Test.YtlkoaanagbgpkaaFloats
namespace Go.Proofs.Ytlkoaanagbgpkaa
open Go.ChangeShapes Go.WideShapes Go.ChangeAt Go.RowKit Go.GrowR
set_option linter.unusedVariables false
set_option linter.unusedSimpArgs false

/-- m bytes in a block that may be written -/
def RowI (g m : Nat) (f : Nat → Int) (w : World) : Prop := (∀ k, k < m → w.cell? ⟨g, k, none⟩ = some (.int .u8 (f k))) ∧ ∀ o, w.frozen? ⟨g, o, none⟩ = false
theorem RowI.set {g m : Nat} {f : Nat → Int} {w : World} (h : RowI g m f w) {k : Nat} (hk : k < m) (v : Int) : RowI g m (fun j => if j = k then v else f j) (w.setCell ⟨g, k, none⟩ (.int .u8 v)) := by
  refine ⟨fun j hj => ?_, fun o => by rw [World.frozen?_setCell]; exact h.2 o⟩
  by_cases he : j = k
  · subst he; simp only [if_true]; exact World.cell?_setCell_same _ _ _ (h.1 j hj)
  · simp only [if_neg he]; rw [World.cell?_setCell_other _ _ _ _ (by intro hc; injection hc with h5 h6; exact he (by omega))]; exact h.1 j hj
theorem RowI.congr {g m : Nat} {f f' : Nat → Int} {w : World} (h : RowI g m f w) (hf : ∀ k, k < m → f k = f' k) : RowI g m f' w := ⟨fun k hk => by rw [h.1 k hk, hf k hk], h.2⟩
theorem RowI.up {g m : Nat} {f : Nat → Int} {w w' : World} (h : RowI g m f w) (hm : 0 < m) (hg : Grow w w') : RowI g m f w' := ⟨fun k hk => up_cell (h.1 k hk) hg, fun o => (froz_up (cell_lt (h.1 0 hm)) hg).trans (h.2 o)⟩
abbrev GN (S : Nat → Prop) : World → World → Prop := GX S (fun _ => False)
theorem RowI.upN {g m b : Nat} {f : Nat → Int} {w w' : World} (h : RowI g m f w) (hm : 0 < m) (hg : GN (fun k => k = b) w w') (hb : b ≠ g) : RowI g m f w' := ⟨fun k hk => (hg.cell g k (cell_lt (h.1 k hk)) (fun e => hb e.symm)).trans (h.1 k hk), fun o => (hg.froz g o (cell_lt (h.1 0 hm))).trans (h.2 o)⟩
/-- the bytes 7F F8 00 .. in either order -/
def eB (big : Bool) (k : Nat) : Int := if big then (if k = 0 then 127 else if k = 1 then 248 else 0) else (if k = 7 then 127 else if k = 6 then 248 else 0)
def set8 (g o : Nat) (e : Nat → Int) (w : World) : World := ((((((((w.setCell ⟨g, o, none⟩ (.int .u8 (e 0))).setCell ⟨g, o + 1, none⟩ (.int .u8 (e 1))).setCell ⟨g, o + 2, none⟩ (.int .u8 (e 2))).setCell ⟨g, o + 3, none⟩ (.int .u8 (e 3))).setCell ⟨g, o + 4, none⟩ (.int .u8 (e 4))).setCell ⟨g, o + 5, none⟩ (.int .u8 (e 5))).setCell ⟨g, o + 6, none⟩ (.int .u8 (e 6))).setCell ⟨g, o + 7, none⟩ (.int .u8 (e 7)))
theorem RowI.eight {g m o : Nat} {f e : Nat → Int} {w : World} (h : RowI g m f w) (ho : o + 8 ≤ m) : RowI g m (fun k => if o ≤ k ∧ k < o + 8 then e (k - o) else f k) (set8 g o e w) := by
  have h8 := (((((((h.set (k := o) (by omega) (e 0)).set (k := o + 1) (by omega) (e 1)).set (k := o + 2) (by omega) (e 2)).set (k := o + 3) (by omega) (e 3)).set (k := o + 4) (by omega) (e 4)).set (k := o + 5) (by omega) (e 5)).set (k := o + 6) (by omega) (e 6)).set (k := o + 7) (by omega) (e 7)
  refine RowI.congr h8 (fun k hk => ?_)
  by_cases hr : o ≤ k ∧ k < o + 8
  · have : k = o ∨ k = o + 1 ∨ k = o + 2 ∨ k = o + 3 ∨ k = o + 4 ∨ k = o + 5 ∨ k = o + 6 ∨ k = o + 7 := by omega
    rw [if_pos hr]
    rcases this with rfl | rfl | rfl | rfl | rfl | rfl | rfl | rfl <;> simp
  · rw [if_neg hr]
    rw [if_neg (by omega), if_neg (by omega), if_neg (by omega), if_neg (by omega), if_neg (by omega), if_neg (by omega), if_neg (by omega), if_neg (by omega)]
theorem gn_set8 {g o : Nat} {e : Nat → Int} {w0 w : World} (h : GN (fun k => k = g) w0 w) : GN (fun k => k = g) w0 (set8 g o e w) := by
  have st : ∀ {w1 : World} (k : Nat) (v : Value), GN (fun k => k = g) w0 w1 → GN (fun k => k = g) w0 (w1.setCell ⟨g, k, none⟩ v) := fun k v h1 => h1.trans (GX.setCell v rfl (fun X hX => hX.elim))
  exact st (o + 7) _ (st (o + 6) _ (st (o + 5) _ (st (o + 4) _ (st (o + 3) _ (st (o + 2) _ (st (o + 1) _ (st o _ h)))))))
def PutP (big : Bool) (g m o : Nat) (f : Nat → Int) (w : World) (e : Ending) (w' : World) : Prop := e = .returned (.tuple #[]) ∧ RowI g m (fun k => if o ≤ k ∧ k < o + 8 then eB big (k - o) else f k) w' ∧ GX (fun k => k = g) (fun _ => False) w w'
set_option maxRecDepth 100000 in
set_option maxHeartbeats 4000000 in
theorem putB_calls (g m o n c : Nat) (f : Nat → Int) (w : World) (h : RowI g m f w) (hn : n = m - o) (ho : o + 8 ≤ m) (hm : m ≤ 1000) :
    Calls Try.prog 195 #[.agg #[], .slice (some ⟨g, o, none⟩) n c, .int .u64 9221120237041090560] w (PutP true g m o f w) := by
  have HR := Lib.hid h
  have hlt := cell_lt (h.1 0 (by omega))
  dsimp only at hlt
  have c0 := h.1 (o) (by omega)
  have f0 := h.2 (o)
  have c1 := h.1 (o + 1) (by omega)
  have f1 := h.2 (o + 1)
  have c2 := h.1 (o + 2) (by omega)
  have f2 := h.2 (o + 2)
  have c3 := h.1 (o + 3) (by omega)
  have f3 := h.2 (o + 3)
  have c4 := h.1 (o + 4) (by omega)
  have f4 := h.2 (o + 4)
  have c5 := h.1 (o + 5) (by omega)
  have f5 := h.2 (o + 5)
  have c6 := h.1 (o + 6) (by omega)
  have f6 := h.2 (o + 6)
  have c7 := h.1 (o + 7) (by omega)
  have f7 := h.2 (o + 7)
  generalize f (o) = x0 at c0
  generalize f (o + 1) = x1 at c1
  generalize f (o + 2) = x2 at c2
  generalize f (o + 3) = x3 at c3
  generalize f (o + 4) = x4 at c4
  generalize f (o + 5) = x5 at c5
  generalize f (o + 6) = x6 at c6
  generalize f (o + 7) = x7 at c7
  have hn8 : 8 ≤ n := by omega
  clear h
  have b0 : (0 : Int) < (n : Int) := by omega
  have b1 : (1 : Int) < (n : Int) := by omega
  have b2 : (2 : Int) < (n : Int) := by omega
  have b3 : (3 : Int) < (n : Int) := by omega
  have b4 : (4 : Int) < (n : Int) := by omega
  have b5 : (5 : Int) < (n : Int) := by omega
  have b6 : (6 : Int) < (n : Int) := by omega
  have b7 : (7 : Int) < (n : Int) := by omega
  go_enter Try.func195, Try.ntmps195
  go_wp2
  simp only [Int.reduceMod]
  refine bodyPost_end (results_none rfl _ _ _) rfl ?_
  have q0 : eB true 0 = 127 := rfl
  have q1 : eB true 1 = 248 := rfl
  have q2 : eB true 2 = 0 := rfl
  have q3 : eB true 3 = 0 := rfl
  have q4 : eB true 4 = 0 := rfl
  have q5 : eB true 5 = 0 := rfl
  have q6 : eB true 6 = 0 := rfl
  have q7 : eB true 7 = 0 := rfl
  have hs8 : set8 g o (eB true) w = ((((((((w.setCell ⟨g, o, none⟩ (.int .u8 127)).setCell ⟨g, o + 1, none⟩ (.int .u8 248)).setCell ⟨g, o + 2, none⟩ (.int .u8 0)).setCell ⟨g, o + 3, none⟩ (.int .u8 0)).setCell ⟨g, o + 4, none⟩ (.int .u8 0)).setCell ⟨g, o + 5, none⟩ (.int .u8 0)).setCell ⟨g, o + 6, none⟩ (.int .u8 0)).setCell ⟨g, o + 7, none⟩ (.int .u8 0)) := by unfold set8; rw [q0, q1, q2, q3, q4, q5, q6, q7]
  rw [← hs8]
  refine ⟨rfl, (HR.out.eight ho).up (by omega) ((Grow.refl _).alloc _), ?_⟩
  exact (gn_set8 (GX.refl w)).trans (GX.of_grow (fun _ h => h.elim) ((Grow.refl _).alloc _))
set_option maxRecDepth 100000 in
set_option maxHeartbeats 4000000 in
theorem putL_calls (g m o n c : Nat) (f : Nat → Int) (w : World) (h : RowI g m f w) (hn : n = m - o) (ho : o + 8 ≤ m) (hm : m ≤ 1000) :
    Calls Try.prog 203 #[.agg #[], .slice (some ⟨g, o, none⟩) n c, .int .u64 9221120237041090560] w (PutP false g m o f w) := by
  have HR := Lib.hid h
  have hlt := cell_lt (h.1 0 (by omega))
  dsimp only at hlt
  have c0 := h.1 (o) (by omega)
  have f0 := h.2 (o)
  have c1 := h.1 (o + 1) (by omega)
  have f1 := h.2 (o + 1)
  have c2 := h.1 (o + 2) (by omega)
  have f2 := h.2 (o + 2)
  have c3 := h.1 (o + 3) (by omega)
  have f3 := h.2 (o + 3)
  have c4 := h.1 (o + 4) (by omega)
  have f4 := h.2 (o + 4)
  have c5 := h.1 (o + 5) (by omega)
  have f5 := h.2 (o + 5)
  have c6 := h.1 (o + 6) (by omega)
  have f6 := h.2 (o + 6)
  have c7 := h.1 (o + 7) (by omega)
  have f7 := h.2 (o + 7)
  generalize f (o) = x0 at c0
  generalize f (o + 1) = x1 at c1
  generalize f (o + 2) = x2 at c2
  generalize f (o + 3) = x3 at c3
  generalize f (o + 4) = x4 at c4
  generalize f (o + 5) = x5 at c5
  generalize f (o + 6) = x6 at c6
  generalize f (o + 7) = x7 at c7
  have hn8 : 8 ≤ n := by omega
  clear h
  have b0 : (0 : Int) < (n : Int) := by omega
  have b1 : (1 : Int) < (n : Int) := by omega
  have b2 : (2 : Int) < (n : Int) := by omega
  have b3 : (3 : Int) < (n : Int) := by omega
  have b4 : (4 : Int) < (n : Int) := by omega
  have b5 : (5 : Int) < (n : Int) := by omega
  have b6 : (6 : Int) < (n : Int) := by omega
  have b7 : (7 : Int) < (n : Int) := by omega
  go_enter Try.func203, Try.ntmps203
  go_wp2
  simp only [Int.reduceMod]
  refine bodyPost_end (results_none rfl _ _ _) rfl ?_
  have q0 : eB false 0 = 0 := rfl
  have q1 : eB false 1 = 0 := rfl
  have q2 : eB false 2 = 0 := rfl
  have q3 : eB false 3 = 0 := rfl
  have q4 : eB false 4 = 0 := rfl
  have q5 : eB false 5 = 0 := rfl
  have q6 : eB false 6 = 248 := rfl
  have q7 : eB false 7 = 127 := rfl
  have hs8 : set8 g o (eB false) w = ((((((((w.setCell ⟨g, o, none⟩ (.int .u8 0)).setCell ⟨g, o + 1, none⟩ (.int .u8 0)).setCell ⟨g, o + 2, none⟩ (.int .u8 0)).setCell ⟨g, o + 3, none⟩ (.int .u8 0)).setCell ⟨g, o + 4, none⟩ (.int .u8 0)).setCell ⟨g, o + 5, none⟩ (.int .u8 0)).setCell ⟨g, o + 6, none⟩ (.int .u8 248)).setCell ⟨g, o + 7, none⟩ (.int .u8 127)) := by unfold set8; rw [q0, q1, q2, q3, q4, q5, q6, q7]
  rw [← hs8]
  refine ⟨rfl, (HR.out.eight ho).up (by omega) ((Grow.refl _).alloc _), ?_⟩
  exact (gn_set8 (GX.refl w)).trans (GX.of_grow (fun _ h => h.elim) ((Grow.refl _).alloc _))
end Go.Proofs.Ytlkoaanagbgpkaa
