import Derived.ChangeOld
import Derived.SizedLaws
import Derived.Carry
import Derived.Lib.SmallJoins
import Derived.ProofKit
import Derived.OpenShut
namespace Go
open Go.ChangeShapes Go.WideShapes Go.ChangeAt Go.RowKit
set_option linter.unusedVariables false
set_option linter.unusedSimpArgs false
theorem cell_float {H : Type} {enc : TypeId × Value → H} {P : Program} {w : World} {base : Nat} {spare : Nat → Bool} {held : Bool} {t : TypeId} {k : FloatKind} {n : Nat} {v : Value} {y : DataW H × List MemPlace} (ht : P.underlying t = some (.float k))
    (h : DataW.trod enc P w base spare held n t [v] = some y) : ∃ b, v = .float k b ∧ (Lit.float k b).wf = true := by
  cases n with
  | zero => simp [DataW.trod] at h
  | succ n =>
    simp only [DataW.trod, ht] at h
    cases v <;> simp at h
    case float k' b => exact ⟨b, by rw [h.1.1], h.1.2⟩

theorem open_p3 {H : Type} {enc : TypeId × Value → H} {P : Program} {w : World} {base : Nat} {spare : Nat → Bool} {held : Bool} {r : Reach} {b0 : Nat} {t : TypeId} {f0 f1 f2 : Field} {v : Value} {d : DataW H} {p : List MemPlace} (hs : P.underlying t = some (.struct #[f0, f1, f2]))
    (hone : Deep.oneCellFields P #[f0, f1, f2] = true) (hC : P.cellsOf t = 3) (hv : Value.okWide P w r b0 t v) (h : DataW.Trod enc P w base spare held t v d p)
    (h0 : P.underlying f0.type = some (.float .f64)) (h1 : P.underlying f1.type = some (.float .f64)) (h2 : P.underlying f2.type = some (.float .f64)) :
    ∃ x y z, v = .agg #[.float .f64 x, .float .f64 y, .float .f64 z] ∧ (Lit.float .f64 x).wf = true ∧ (Lit.float .f64 y).wf = true ∧ (Lit.float .f64 z).wf = true := by
  obtain ⟨v0, v1, v2, y0, y1, y2, n, rfl, _, _, k0, k1, k2⟩ := Joins.open_agg3 hs hone hC hv h
  obtain ⟨x, rfl, wx⟩ := cell_float h0 k0
  obtain ⟨y, rfl, wy⟩ := cell_float h1 k1
  obtain ⟨z, rfl, wz⟩ := cell_float h2 k2
  exact ⟨x, y, z, rfl, wx, wy, wz⟩

theorem open_p2 {H : Type} {enc : TypeId × Value → H} {P : Program} {w : World} {base : Nat} {spare : Nat → Bool} {held : Bool} {r : Reach} {b0 : Nat} {t : TypeId} {f0 f1 : Field} {v : Value} {d : DataW H} {p : List MemPlace} (hs : P.underlying t = some (.struct #[f0, f1]))
    (hone : Deep.oneCellFields P #[f0, f1] = true) (hC : P.cellsOf t = 2) (hv : Value.okWide P w r b0 t v) (h : DataW.Trod enc P w base spare held t v d p)
    (h0 : P.underlying f0.type = some (.float .f64)) (h1 : P.underlying f1.type = some (.float .f64)) :
    ∃ x y, v = .agg #[.float .f64 x, .float .f64 y] ∧ (Lit.float .f64 x).wf = true ∧ (Lit.float .f64 y).wf = true := by
  obtain ⟨v0, v1, y0, y1, n, rfl, _, _, k0, k1⟩ := Joins.open_agg2 hs hone hC hv h
  obtain ⟨x, rfl, wx⟩ := cell_float h0 k0
  obtain ⟨y, rfl, wy⟩ := cell_float h1 k1
  exact ⟨x, y, rfl, wx, wy⟩
end Go
