import Derived.Test.YtlkoaanagbgpkaaBBox
import Derived.Test.YtlkoaanagbgpkaaSl
namespace Go.Proofs.Ytlkoaanagbgpkaa
open Go.ChangeShapes Go.WideShapes Go.ChangeAt Go.RowKit Go.GrowR
set_option linter.unusedVariables false
set_option linter.unusedSimpArgs false

theorem num_order {x y : Nat} (hx : numB x = true) (hy : numB y = true) : ∃ o, FloatKind.f64.format.order x y = some o := by
  unfold numB Ieee.Format.order at hx hy
  unfold Ieee.Format.order
  generalize FloatKind.f64.format.read x = a at *
  generalize FloatKind.f64.format.read y = b at *
  cases a <;> cases b <;> simp [Ieee.Datum.order] at hx hy ⊢
def less2 (x0 x1 y0 y1 : Nat) : Bool := FloatKind.f64.format.order x0 y0 == some .lt || (FloatKind.f64.format.order x0 y0 == some .eq && FloatKind.f64.format.order x1 y1 == some .lt)
def Told (r : Bool) (w : World) (e : Ending) (w' : World) : Prop := e = .returned (.bool r) ∧ Grow w w'
theorem Told.mk {r r' : Bool} {w w' : World} (h : r = r') (hg : Grow w w') : Told r w (.returned (.bool r')) w' := by subst h; exact ⟨rfl, hg⟩
set_option maxHeartbeats 2000000 in
theorem isLess_calls (b1 o1 n c b2 o2 m d x0 x1 y0 y1 : Nat) (w : World) (hn : 2 ≤ n) (hm : 2 ≤ m) (h0 : w.cell? ⟨b1, o1, none⟩ = some (.float .f64 x0)) (h1 : w.cell? ⟨b1, o1 + 1, none⟩ = some (.float .f64 x1)) (k0 : w.cell? ⟨b2, o2, none⟩ = some (.float .f64 y0)) (k1 : w.cell? ⟨b2, o2 + 1, none⟩ = some (.float .f64 y1))
    (hx : numB x0 = true) (hy : numB y0 = true) :
    Calls Try.prog 116 #[.slice (some ⟨b1, o1, none⟩) n c, .slice (some ⟨b2, o2, none⟩) m d] w (Told (less2 x0 x1 y0 y1) w) := by
  obtain ⟨o, ho⟩ := num_order hx hy
  have q0 : (0 : Int) < (n : Int) := by omega
  have q1 : (1 : Int) < (n : Int) := by omega
  have q2 : (0 : Int) < (m : Int) := by omega
  have q3 : (1 : Int) < (m : Int) := by omega
  have p0 : 0 < n := by omega
  have p1 : 1 < n := by omega
  have p2 : 0 < m := by omega
  have p3 : 1 < m := by omega
  clear hx hy
  have HO := Lib.hid ho
  cases h2 : (FloatKind.f64.format.order x1 y1 == some Ordering.lt) <;> cases o
  all_goals
    have H2 := Lib.hid h2
    go_enter Try.func116, Try.ntmps116
    go_wp2
    go_quiet (fail)
    go_wp2
    try (go_quiet (fail); go_wp2)
    try (go_quiet (fail); go_wp2)
    go_ret
    refine Told.mk (by unfold less2; rw [HO.out, H2.out]; rfl) ?_
    first | exact Grow.drewN (Grow.refl w) _ | exact Grow.drewN (Grow.drewN (Grow.refl w) _) _ | exact Grow.drewN (Grow.drewN (Grow.drewN (Grow.refl w) _) _) _
set_option maxHeartbeats 2000000 in
theorem before0_calls (b1 o1 n c b2 o2 m d x0 x1 y0 y1 : Nat) (w : World) (hn : 2 ≤ n) (hm : 2 ≤ m) (h0 : w.cell? ⟨b1, o1, none⟩ = some (.float .f64 x0)) (h1 : w.cell? ⟨b1, o1 + 1, none⟩ = some (.float .f64 x1)) (k0 : w.cell? ⟨b2, o2, none⟩ = some (.float .f64 y0)) (k1 : w.cell? ⟨b2, o2 + 1, none⟩ = some (.float .f64 y1))
    (hx : numB x0 = true) (hy : numB y0 = true) :
    Calls Try.prog 37 #[.int .i64 0, .slice (some ⟨b1, o1, none⟩) n c, .slice (some ⟨b2, o2, none⟩) m d] w (Told (less2 x0 x1 y0 y1) w) := by
  obtain ⟨o, ho⟩ := num_order hx hy
  have q0 : (0 : Int) < (n : Int) := by omega
  have q1 : (1 : Int) < (n : Int) := by omega
  have q2 : (0 : Int) < (m : Int) := by omega
  have q3 : (1 : Int) < (m : Int) := by omega
  have p0 : 0 < n := by omega
  have p1 : 1 < n := by omega
  have p2 : 0 < m := by omega
  have p3 : 1 < m := by omega
  clear hx hy
  have HO := Lib.hid ho
  cases h2 : (FloatKind.f64.format.order x1 y1 == some Ordering.lt) <;> cases o
  all_goals
    have H2 := Lib.hid h2
    go_enter Try.func37, Try.ntmps37
    go_wp2
    go_quiet (fail)
    go_wp2
    try (go_quiet (fail); go_wp2)
    try (go_quiet (fail); go_wp2)
    go_ret
    refine Told.mk (by unfold less2; rw [HO.out, H2.out]; rfl) ?_
    first | exact Grow.drewN (Grow.refl w) _ | exact Grow.drewN (Grow.drewN (Grow.refl w) _) _ | exact Grow.drewN (Grow.drewN (Grow.drewN (Grow.refl w) _) _) _
end Go.Proofs.Ytlkoaanagbgpkaa
