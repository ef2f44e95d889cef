import Derived.Test.YtelfjglhmccecaaPlaneTo
import Derived.Deep.Cut
import Derived.Deep.CutRange
import Derived.BigRegion
namespace Go.Proofs.Ytelfjglhmccecaa
open Go.ChangeShapes Go.WideShapes Go.ChangeAt Go.RowKit Go.GrowR
set_option linter.unusedVariables false
set_option linter.unusedSimpArgs false

theorem pickMin {x y : Nat} {a b : Int} {c : Bool} (hx : Fl.IsI x a) (hy : Fl.IsI y b) (h : (FloatKind.f64.format.order x y == some .lt) = c) : Fl.IsI (if c then x else y) (min a b) := by
  rw [Fl.lt_V hx hy] at h
  subst h
  by_cases hl : a < b
  · rw [decide_eq_true (Rat.intCast_lt_intCast.2 hl), Int.min_eq_left (by omega)]; exact hx
  · rw [decide_eq_false (fun h => hl (Rat.intCast_lt_intCast.1 h)), Int.min_eq_right (by omega)]; exact hy
theorem pickMax {x y : Nat} {a b : Int} {c : Bool} (hx : Fl.IsI x a) (hy : Fl.IsI y b) (h : (FloatKind.f64.format.order x y == some .gt) = c) : Fl.IsI (if c then x else y) (max a b) := by
  rw [Fl.gt_V hx hy] at h
  subst h
  by_cases hl : b < a
  · rw [decide_eq_true (Rat.intCast_lt_intCast.2 hl), Int.max_eq_left (by omega)]; exact hx
  · rw [decide_eq_false (fun h => hl (Rat.intCast_lt_intCast.1 h)), Int.max_eq_right (by omega)]; exact hy
theorem cell_lt {w : World} {a : Addr} {v : Value} (h : w.cell? a = some v) : a.block < w.heap.size := by
  rcases Nat.lt_or_ge a.block w.heap.size with h1 | h1
  · exact h1
  · unfold World.cell? at h
    rw [Array.getElem?_eq_none h1] at h
    simp at h
theorem froz_up {w w' : World} {b o : Nat} (h : b < w.heap.size) (hg : Grow w w') : w'.frozen? ⟨b, o, none⟩ = w.frozen? ⟨b, o, none⟩ := by
  unfold World.frozen?
  rw [hg.block b h]
theorem fop {P : Program} {op : BinOp} {x y z : Nat} (h : floatBits op .f64 x y = some z) : ∀ (t : TypeId) (w : World), (binOp op t (.float .f64 x) (.float .f64 y)).run P w = .ok (.float .f64 z) w := fun t w => run_float_arith w op t .f64 x y z h
abbrev GB (B : Nat) : World → World → Prop := GX (fun k => B ≤ k) (fun _ => False)
theorem gxSet {B : Nat} {w w' : World} {p : Addr} (h : GB B w w') (hp : B ≤ p.block) (u : Value) : GB B w (w'.setCell p u) := h.trans (GX.setCell _ hp (fun X hX => hX.elim))
theorem gxDrew {B : Nat} {w w' : World} (h : GB B w w') : GB B w w'.drew := h.trans (GX.of_grow (fun _ hX => hX.elim) (Grow.refl w').drew)
/-- a slice of two floats, a whole block that can be written -/
def C2 (b x y : Nat) (w : World) : Prop := w.cell? ⟨b, 0, none⟩ = some (.float .f64 x) ∧ w.cell? ⟨b, 1, none⟩ = some (.float .f64 y) ∧ w.frozen? ⟨b, 0, none⟩ = false ∧ w.frozen? ⟨b, 1, none⟩ = false
theorem C2.up {b x y : Nat} : Up (C2 b x y) := fun _ _ ⟨h0, h1, h2, h3⟩ hg => ⟨up_cell h0 hg, up_cell h1 hg, (froz_up (cell_lt h0) hg).trans h2, (froz_up (cell_lt h0) hg).trans h3⟩
abbrev S2 (b : Nat) : Value := .slice (some ⟨b, 0, none⟩) 2 2
def LowHi (a b c d : Int) : Int := max (min a b) (min c d)
def HighLo (a b c d : Int) : Int := min (max a b) (max c d)
def EnvP (B b4 : Nat) (L H K G : Int) (w : World) (e : Ending) (w' : World) : Prop := e = .returned (.tuple #[]) ∧ ∃ m n, C2 b4 m n w' ∧ Fl.V m ((L + H : Int) * Fl.p2 (-1)) ∧ Fl.V n ((K + G : Int) * Fl.p2 (-1)) ∧ GX (fun k => B ≤ k) (fun _ => False) w w'
set_option maxRecDepth 100000 in
set_option maxHeartbeats 8000000 in
theorem env_calls (B b0 b1 b2 b3 b4 x0 x1 x2 x3 y0 y1 y2 y3 x4 y4 : Nat) (a0 e0 a1 e1 a2 e2 a3 e3 : Int) (w : World) (c0 : C2 b0 x0 y0 w) (c1 : C2 b1 x1 y1 w) (c2 : C2 b2 x2 y2 w) (c3 : C2 b3 x3 y3 w) (c4 : C2 b4 x4 y4 w) (i0 : Fl.IsI x0 a0) (j0 : Fl.IsI y0 e0) (i1 : Fl.IsI x1 a1) (j1 : Fl.IsI y1 e1) (i2 : Fl.IsI x2 a2) (j2 : Fl.IsI y2 e2) (i3 : Fl.IsI x3 a3) (j3 : Fl.IsI y3 e3) (ba0 : -16777216 ≤ a0 ∧ a0 ≤ 16777216) (be0 : -16777216 ≤ e0 ∧ e0 ≤ 16777216) (ba1 : -16777216 ≤ a1 ∧ a1 ≤ 16777216) (be1 : -16777216 ≤ e1 ∧ e1 ≤ 16777216) (ba2 : -16777216 ≤ a2 ∧ a2 ≤ 16777216) (be2 : -16777216 ≤ e2 ∧ e2 ≤ 16777216) (ba3 : -16777216 ≤ a3 ∧ a3 ≤ 16777216) (be3 : -16777216 ≤ e3 ∧ e3 ≤ 16777216) (n10 : b1 ≠ b0) (n20 : b2 ≠ b0) (n21 : b2 ≠ b1) (n30 : b3 ≠ b0) (n31 : b3 ≠ b1) (n32 : b3 ≠ b2) (n40 : b4 ≠ b0) (n41 : b4 ≠ b1) (n42 : b4 ≠ b2) (n43 : b4 ≠ b3) (g0 : B ≤ b0) (g1 : B ≤ b1) (g2 : B ≤ b2) (g3 : B ≤ b3) (g4 : B ≤ b4) :
    Calls Try.prog 123 #[S2 b0, S2 b1, S2 b2, S2 b3, S2 b4] w (EnvP B b4 (LowHi a0 a1 a2 a3) (HighLo a0 a1 a2 a3) (LowHi e0 e1 e2 e3) (HighLo e0 e1 e2 e3) w) := by
  have I0 := Lib.hid i0
  have J0 := Lib.hid j0
  clear i0 j0
  have I1 := Lib.hid i1
  have J1 := Lib.hid j1
  clear i1 j1
  have I2 := Lib.hid i2
  have J2 := Lib.hid j2
  clear i2 j2
  have I3 := Lib.hid i3
  have J3 := Lib.hid j3
  clear i3 j3
  have BA0 := Lib.hid ba0
  have BE0 := Lib.hid be0
  clear ba0 be0
  have BA1 := Lib.hid ba1
  have BE1 := Lib.hid be1
  clear ba1 be1
  have BA2 := Lib.hid ba2
  have BE2 := Lib.hid be2
  clear ba2 be2
  have BA3 := Lib.hid ba3
  have BE3 := Lib.hid be3
  clear ba3 be3
  have CC0 := Lib.hid c0
  obtain ⟨p0, q0, r0, s0⟩ := c0
  have CC1 := Lib.hid c1
  obtain ⟨p1, q1, r1, s1⟩ := c1
  have CC2 := Lib.hid c2
  obtain ⟨p2, q2, r2, s2⟩ := c2
  have CC3 := Lib.hid c3
  obtain ⟨p3, q3, r3, s3⟩ := c3
  have CC4 := Lib.hid c4
  obtain ⟨p4, q4, r4, s4⟩ := c4
  have HG := Lib.hid (Grow.refl w)
  clear r0 s0 r1 s1 r2 s2 r3 s3 r4 s4
  have G0 := Lib.hid g0; clear g0
  have G1 := Lib.hid g1; clear g1
  have N10 := Lib.hid n10; clear n10
  have G2 := Lib.hid g2; clear g2
  have N20 := Lib.hid n20; clear n20
  have N21 := Lib.hid n21; clear n21
  have G3 := Lib.hid g3; clear g3
  have N30 := Lib.hid n30; clear n30
  have N31 := Lib.hid n31; clear n31
  have N32 := Lib.hid n32; clear n32
  have G4 := Lib.hid g4; clear g4
  have N40 := Lib.hid n40; clear n40
  have N41 := Lib.hid n41; clear n41
  have N42 := Lib.hid n42; clear n42
  have N43 := Lib.hid n43; clear n43
  go_enter Try.func123, Try.ntmps123
  go_upto_if 33 with fail
  go_quiet (fail)
  go_upto_if 33 with fail
  go_cut [10] from 24 to 36 (fun s5 wx => (∃ z, s5 = .float .f64 z ∧ Fl.IsI z (min a0 a1)) ∧ Grow w wx)
  case first =>
    cases hc : (FloatKind.f64.format.order x0 x1 == some .lt) with
    | true =>
      have HZ := Lib.hid (pickMin I0.out I1.out hc)
      go_wp2_with fail
      go_meet
      exact ⟨⟨_, rfl, HZ.out⟩, HG.out.drewN _⟩
    | false =>
      have HZ := Lib.hid (pickMin I0.out I1.out hc)
      go_wp2_with fail
      go_meet
      exact ⟨⟨_, rfl, HZ.out⟩, HG.out.drewN _⟩
  case rest =>
  obtain ⟨⟨z10_, rfl, h10_⟩, hg_⟩ := hcut
  have Z10 := Lib.hid h10_; clear h10_
  clear HG p0 q0 p1 q1 p2 q2 p3 q3 p4 q4
  have HG := Lib.hid hg_; clear hg_
  obtain ⟨p0, q0, -, -⟩ := C2.up _ _ CC0.out HG.out
  obtain ⟨p1, q1, -, -⟩ := C2.up _ _ CC1.out HG.out
  obtain ⟨p2, q2, -, -⟩ := C2.up _ _ CC2.out HG.out
  obtain ⟨p3, q3, -, -⟩ := C2.up _ _ CC3.out HG.out
  obtain ⟨p4, q4, -, -⟩ := C2.up _ _ CC4.out HG.out
  go_upto_if 46 with fail
  go_quiet (fail)
  go_upto_if 46 with fail
  go_cut [11] from 37 to 49 (fun s5 wx => (∃ z, s5 = .float .f64 z ∧ Fl.IsI z (min e0 e1)) ∧ Grow w wx)
  case first =>
    cases hc : (FloatKind.f64.format.order y0 y1 == some .lt) with
    | true =>
      have HZ := Lib.hid (pickMin J0.out J1.out hc)
      go_wp2_with fail
      go_meet
      exact ⟨⟨_, rfl, HZ.out⟩, HG.out.drewN _⟩
    | false =>
      have HZ := Lib.hid (pickMin J0.out J1.out hc)
      go_wp2_with fail
      go_meet
      exact ⟨⟨_, rfl, HZ.out⟩, HG.out.drewN _⟩
  case rest =>
  obtain ⟨⟨z11_, rfl, h11_⟩, hg_⟩ := hcut
  have Z11 := Lib.hid h11_; clear h11_
  clear HG p0 q0 p1 q1 p2 q2 p3 q3 p4 q4
  have HG := Lib.hid hg_; clear hg_
  obtain ⟨p0, q0, -, -⟩ := C2.up _ _ CC0.out HG.out
  obtain ⟨p1, q1, -, -⟩ := C2.up _ _ CC1.out HG.out
  obtain ⟨p2, q2, -, -⟩ := C2.up _ _ CC2.out HG.out
  obtain ⟨p3, q3, -, -⟩ := C2.up _ _ CC3.out HG.out
  obtain ⟨p4, q4, -, -⟩ := C2.up _ _ CC4.out HG.out
  go_upto_if 59 with fail
  go_quiet (fail)
  go_upto_if 59 with fail
  go_cut [12] from 50 to 62 (fun s5 wx => (∃ z, s5 = .float .f64 z ∧ Fl.IsI z (max a0 a1)) ∧ Grow w wx)
  case first =>
    cases hc : (FloatKind.f64.format.order x0 x1 == some .gt) with
    | true =>
      have HZ := Lib.hid (pickMax I0.out I1.out hc)
      go_wp2_with fail
      go_meet
      exact ⟨⟨_, rfl, HZ.out⟩, HG.out.drewN _⟩
    | false =>
      have HZ := Lib.hid (pickMax I0.out I1.out hc)
      go_wp2_with fail
      go_meet
      exact ⟨⟨_, rfl, HZ.out⟩, HG.out.drewN _⟩
  case rest =>
  obtain ⟨⟨z12_, rfl, h12_⟩, hg_⟩ := hcut
  have Z12 := Lib.hid h12_; clear h12_
  clear HG p0 q0 p1 q1 p2 q2 p3 q3 p4 q4
  have HG := Lib.hid hg_; clear hg_
  obtain ⟨p0, q0, -, -⟩ := C2.up _ _ CC0.out HG.out
  obtain ⟨p1, q1, -, -⟩ := C2.up _ _ CC1.out HG.out
  obtain ⟨p2, q2, -, -⟩ := C2.up _ _ CC2.out HG.out
  obtain ⟨p3, q3, -, -⟩ := C2.up _ _ CC3.out HG.out
  obtain ⟨p4, q4, -, -⟩ := C2.up _ _ CC4.out HG.out
  go_upto_if 72 with fail
  go_quiet (fail)
  go_upto_if 72 with fail
  go_cut [13] from 63 to 75 (fun s5 wx => (∃ z, s5 = .float .f64 z ∧ Fl.IsI z (max e0 e1)) ∧ Grow w wx)
  case first =>
    cases hc : (FloatKind.f64.format.order y0 y1 == some .gt) with
    | true =>
      have HZ := Lib.hid (pickMax J0.out J1.out hc)
      go_wp2_with fail
      go_meet
      exact ⟨⟨_, rfl, HZ.out⟩, HG.out.drewN _⟩
    | false =>
      have HZ := Lib.hid (pickMax J0.out J1.out hc)
      go_wp2_with fail
      go_meet
      exact ⟨⟨_, rfl, HZ.out⟩, HG.out.drewN _⟩
  case rest =>
  obtain ⟨⟨z13_, rfl, h13_⟩, hg_⟩ := hcut
  have Z13 := Lib.hid h13_; clear h13_
  clear HG p0 q0 p1 q1 p2 q2 p3 q3 p4 q4
  have HG := Lib.hid hg_; clear hg_
  obtain ⟨p0, q0, -, -⟩ := C2.up _ _ CC0.out HG.out
  obtain ⟨p1, q1, -, -⟩ := C2.up _ _ CC1.out HG.out
  obtain ⟨p2, q2, -, -⟩ := C2.up _ _ CC2.out HG.out
  obtain ⟨p3, q3, -, -⟩ := C2.up _ _ CC3.out HG.out
  obtain ⟨p4, q4, -, -⟩ := C2.up _ _ CC4.out HG.out
  go_upto_if 85 with fail
  go_quiet (fail)
  go_upto_if 85 with fail
  go_cut [14] from 76 to 88 (fun s5 wx => (∃ z, s5 = .float .f64 z ∧ Fl.IsI z (min a2 a3)) ∧ Grow w wx)
  case first =>
    cases hc : (FloatKind.f64.format.order x2 x3 == some .lt) with
    | true =>
      have HZ := Lib.hid (pickMin I2.out I3.out hc)
      go_wp2_with fail
      go_meet
      exact ⟨⟨_, rfl, HZ.out⟩, HG.out.drewN _⟩
    | false =>
      have HZ := Lib.hid (pickMin I2.out I3.out hc)
      go_wp2_with fail
      go_meet
      exact ⟨⟨_, rfl, HZ.out⟩, HG.out.drewN _⟩
  case rest =>
  obtain ⟨⟨z14_, rfl, h14_⟩, hg_⟩ := hcut
  have Z14 := Lib.hid h14_; clear h14_
  clear HG p0 q0 p1 q1 p2 q2 p3 q3 p4 q4
  have HG := Lib.hid hg_; clear hg_
  obtain ⟨p0, q0, -, -⟩ := C2.up _ _ CC0.out HG.out
  obtain ⟨p1, q1, -, -⟩ := C2.up _ _ CC1.out HG.out
  obtain ⟨p2, q2, -, -⟩ := C2.up _ _ CC2.out HG.out
  obtain ⟨p3, q3, -, -⟩ := C2.up _ _ CC3.out HG.out
  obtain ⟨p4, q4, -, -⟩ := C2.up _ _ CC4.out HG.out
  go_upto_if 98 with fail
  go_quiet (fail)
  go_upto_if 98 with fail
  go_cut [15] from 89 to 101 (fun s5 wx => (∃ z, s5 = .float .f64 z ∧ Fl.IsI z (min e2 e3)) ∧ Grow w wx)
  case first =>
    cases hc : (FloatKind.f64.format.order y2 y3 == some .lt) with
    | true =>
      have HZ := Lib.hid (pickMin J2.out J3.out hc)
      go_wp2_with fail
      go_meet
      exact ⟨⟨_, rfl, HZ.out⟩, HG.out.drewN _⟩
    | false =>
      have HZ := Lib.hid (pickMin J2.out J3.out hc)
      go_wp2_with fail
      go_meet
      exact ⟨⟨_, rfl, HZ.out⟩, HG.out.drewN _⟩
  case rest =>
  obtain ⟨⟨z15_, rfl, h15_⟩, hg_⟩ := hcut
  have Z15 := Lib.hid h15_; clear h15_
  clear HG p0 q0 p1 q1 p2 q2 p3 q3 p4 q4
  have HG := Lib.hid hg_; clear hg_
  obtain ⟨p0, q0, -, -⟩ := C2.up _ _ CC0.out HG.out
  obtain ⟨p1, q1, -, -⟩ := C2.up _ _ CC1.out HG.out
  obtain ⟨p2, q2, -, -⟩ := C2.up _ _ CC2.out HG.out
  obtain ⟨p3, q3, -, -⟩ := C2.up _ _ CC3.out HG.out
  obtain ⟨p4, q4, -, -⟩ := C2.up _ _ CC4.out HG.out
  go_upto_if 111 with fail
  go_quiet (fail)
  go_upto_if 111 with fail
  go_cut [16] from 102 to 114 (fun s5 wx => (∃ z, s5 = .float .f64 z ∧ Fl.IsI z (max a2 a3)) ∧ Grow w wx)
  case first =>
    cases hc : (FloatKind.f64.format.order x2 x3 == some .gt) with
    | true =>
      have HZ := Lib.hid (pickMax I2.out I3.out hc)
      go_wp2_with fail
      go_meet
      exact ⟨⟨_, rfl, HZ.out⟩, HG.out.drewN _⟩
    | false =>
      have HZ := Lib.hid (pickMax I2.out I3.out hc)
      go_wp2_with fail
      go_meet
      exact ⟨⟨_, rfl, HZ.out⟩, HG.out.drewN _⟩
  case rest =>
  obtain ⟨⟨z16_, rfl, h16_⟩, hg_⟩ := hcut
  have Z16 := Lib.hid h16_; clear h16_
  clear HG p0 q0 p1 q1 p2 q2 p3 q3 p4 q4
  have HG := Lib.hid hg_; clear hg_
  obtain ⟨p0, q0, -, -⟩ := C2.up _ _ CC0.out HG.out
  obtain ⟨p1, q1, -, -⟩ := C2.up _ _ CC1.out HG.out
  obtain ⟨p2, q2, -, -⟩ := C2.up _ _ CC2.out HG.out
  obtain ⟨p3, q3, -, -⟩ := C2.up _ _ CC3.out HG.out
  obtain ⟨p4, q4, -, -⟩ := C2.up _ _ CC4.out HG.out
  go_upto_if 124 with fail
  go_quiet (fail)
  go_upto_if 124 with fail
  go_cut [17] from 115 to 127 (fun s5 wx => (∃ z, s5 = .float .f64 z ∧ Fl.IsI z (max e2 e3)) ∧ Grow w wx)
  case first =>
    cases hc : (FloatKind.f64.format.order y2 y3 == some .gt) with
    | true =>
      have HZ := Lib.hid (pickMax J2.out J3.out hc)
      go_wp2_with fail
      go_meet
      exact ⟨⟨_, rfl, HZ.out⟩, HG.out.drewN _⟩
    | false =>
      have HZ := Lib.hid (pickMax J2.out J3.out hc)
      go_wp2_with fail
      go_meet
      exact ⟨⟨_, rfl, HZ.out⟩, HG.out.drewN _⟩
  case rest =>
  obtain ⟨⟨z17_, rfl, h17_⟩, hg_⟩ := hcut
  have Z17 := Lib.hid h17_; clear h17_
  clear HG p0 q0 p1 q1 p2 q2 p3 q3 p4 q4
  have HG := Lib.hid hg_; clear hg_
  obtain ⟨p0, q0, -, -⟩ := C2.up _ _ CC0.out HG.out
  obtain ⟨p1, q1, -, -⟩ := C2.up _ _ CC1.out HG.out
  obtain ⟨p2, q2, -, -⟩ := C2.up _ _ CC2.out HG.out
  obtain ⟨p3, q3, -, -⟩ := C2.up _ _ CC3.out HG.out
  obtain ⟨p4, q4, -, -⟩ := C2.up _ _ CC4.out HG.out
  go_upto_if 131 with fail
  go_cut [18] from 128 to 132 (fun s5 wx => (∃ z, s5 = .float .f64 z ∧ Fl.IsI z (max (min a0 a1) (min a2 a3))) ∧ Grow w wx)
  case first =>
    cases hc : (FloatKind.f64.format.order z10_ z14_ == some .gt) with
    | true =>
      have HZ := Lib.hid (pickMax Z10.out Z14.out hc)
      go_wp2_with fail
      go_meet
      exact ⟨⟨_, rfl, HZ.out⟩, HG.out⟩
    | false =>
      have HZ := Lib.hid (pickMax Z10.out Z14.out hc)
      go_wp2_with fail
      go_meet
      exact ⟨⟨_, rfl, HZ.out⟩, HG.out⟩
  case rest =>
  obtain ⟨⟨z18_, rfl, h18_⟩, hg_⟩ := hcut
  have Z18 := Lib.hid h18_; clear h18_
  clear HG p0 q0 p1 q1 p2 q2 p3 q3 p4 q4
  have HG := Lib.hid hg_; clear hg_
  obtain ⟨p0, q0, -, -⟩ := C2.up _ _ CC0.out HG.out
  obtain ⟨p1, q1, -, -⟩ := C2.up _ _ CC1.out HG.out
  obtain ⟨p2, q2, -, -⟩ := C2.up _ _ CC2.out HG.out
  obtain ⟨p3, q3, -, -⟩ := C2.up _ _ CC3.out HG.out
  obtain ⟨p4, q4, -, -⟩ := C2.up _ _ CC4.out HG.out
  go_upto_if 136 with fail
  go_cut [19] from 133 to 137 (fun s5 wx => (∃ z, s5 = .float .f64 z ∧ Fl.IsI z (min (max a0 a1) (max a2 a3))) ∧ Grow w wx)
  case first =>
    cases hc : (FloatKind.f64.format.order z12_ z16_ == some .lt) with
    | true =>
      have HZ := Lib.hid (pickMin Z12.out Z16.out hc)
      go_wp2_with fail
      go_meet
      exact ⟨⟨_, rfl, HZ.out⟩, HG.out⟩
    | false =>
      have HZ := Lib.hid (pickMin Z12.out Z16.out hc)
      go_wp2_with fail
      go_meet
      exact ⟨⟨_, rfl, HZ.out⟩, HG.out⟩
  case rest =>
  obtain ⟨⟨z19_, rfl, h19_⟩, hg_⟩ := hcut
  have Z19 := Lib.hid h19_; clear h19_
  clear HG p0 q0 p1 q1 p2 q2 p3 q3 p4 q4
  have HG := Lib.hid hg_; clear hg_
  obtain ⟨p0, q0, -, -⟩ := C2.up _ _ CC0.out HG.out
  obtain ⟨p1, q1, -, -⟩ := C2.up _ _ CC1.out HG.out
  obtain ⟨p2, q2, -, -⟩ := C2.up _ _ CC2.out HG.out
  obtain ⟨p3, q3, -, -⟩ := C2.up _ _ CC3.out HG.out
  obtain ⟨p4, q4, -, -⟩ := C2.up _ _ CC4.out HG.out
  go_upto_if 141 with fail
  go_cut [20] from 138 to 142 (fun s5 wx => (∃ z, s5 = .float .f64 z ∧ Fl.IsI z (max (min e0 e1) (min e2 e3))) ∧ Grow w wx)
  case first =>
    cases hc : (FloatKind.f64.format.order z11_ z15_ == some .gt) with
    | true =>
      have HZ := Lib.hid (pickMax Z11.out Z15.out hc)
      go_wp2_with fail
      go_meet
      exact ⟨⟨_, rfl, HZ.out⟩, HG.out⟩
    | false =>
      have HZ := Lib.hid (pickMax Z11.out Z15.out hc)
      go_wp2_with fail
      go_meet
      exact ⟨⟨_, rfl, HZ.out⟩, HG.out⟩
  case rest =>
  obtain ⟨⟨z20_, rfl, h20_⟩, hg_⟩ := hcut
  have Z20 := Lib.hid h20_; clear h20_
  clear HG p0 q0 p1 q1 p2 q2 p3 q3 p4 q4
  have HG := Lib.hid hg_; clear hg_
  obtain ⟨p0, q0, -, -⟩ := C2.up _ _ CC0.out HG.out
  obtain ⟨p1, q1, -, -⟩ := C2.up _ _ CC1.out HG.out
  obtain ⟨p2, q2, -, -⟩ := C2.up _ _ CC2.out HG.out
  obtain ⟨p3, q3, -, -⟩ := C2.up _ _ CC3.out HG.out
  obtain ⟨p4, q4, -, -⟩ := C2.up _ _ CC4.out HG.out
  go_upto_if 146 with fail
  go_cut [21] from 143 to 147 (fun s5 wx => (∃ z, s5 = .float .f64 z ∧ Fl.IsI z (min (max e0 e1) (max e2 e3))) ∧ Grow w wx)
  case first =>
    cases hc : (FloatKind.f64.format.order z13_ z17_ == some .lt) with
    | true =>
      have HZ := Lib.hid (pickMin Z13.out Z17.out hc)
      go_wp2_with fail
      go_meet
      exact ⟨⟨_, rfl, HZ.out⟩, HG.out⟩
    | false =>
      have HZ := Lib.hid (pickMin Z13.out Z17.out hc)
      go_wp2_with fail
      go_meet
      exact ⟨⟨_, rfl, HZ.out⟩, HG.out⟩
  case rest =>
  obtain ⟨⟨z21_, rfl, h21_⟩, hg_⟩ := hcut
  have Z21 := Lib.hid h21_; clear h21_
  clear HG p0 q0 p1 q1 p2 q2 p3 q3 p4 q4
  have HG := Lib.hid hg_; clear hg_
  obtain ⟨p0, q0, -, -⟩ := C2.up _ _ CC0.out HG.out
  obtain ⟨p1, q1, -, -⟩ := C2.up _ _ CC1.out HG.out
  obtain ⟨p2, q2, -, -⟩ := C2.up _ _ CC2.out HG.out
  obtain ⟨p3, q3, -, -⟩ := C2.up _ _ CC3.out HG.out
  obtain ⟨p4, q4, -, -⟩ := C2.up _ _ CC4.out HG.out
  obtain ⟨sx, fx, jx⟩ := Fl.add_I Z18.out Z19.out (by have := BA0.out; have := BA1.out; have := BA2.out; have := BA3.out; omega)
  obtain ⟨sy, fy, jy⟩ := Fl.add_I Z20.out Z21.out (by have := BE0.out; have := BE1.out; have := BE2.out; have := BE3.out; omega)
  obtain ⟨mx, hx, vx⟩ := Fl.halved_I jx (by have := BA0.out; have := BA1.out; have := BA2.out; have := BA3.out; omega)
  obtain ⟨my, hy, vy⟩ := Fl.halved_I jy (by have := BE0.out; have := BE1.out; have := BE2.out; have := BE3.out; omega)
  have f1 := fop (P := Try.prog) fx
  have f2 := fop (P := Try.prog) fy
  have f3 := fop (P := Try.prog) hx
  have f4 := fop (P := Try.prog) hy
  obtain ⟨dx0, ex0, -⟩ := Fl.sub_V I0.out vx
  obtain ⟨dy0, ey0, -⟩ := Fl.sub_V J0.out vy
  have hx0 := fop (P := Try.prog) (op := .sub) ex0
  have hy0 := fop (P := Try.prog) (op := .sub) ey0
  obtain ⟨dx1, ex1, -⟩ := Fl.sub_V I1.out vx
  obtain ⟨dy1, ey1, -⟩ := Fl.sub_V J1.out vy
  have hx1 := fop (P := Try.prog) (op := .sub) ex1
  have hy1 := fop (P := Try.prog) (op := .sub) ey1
  obtain ⟨dx2, ex2, -⟩ := Fl.sub_V I2.out vx
  obtain ⟨dy2, ey2, -⟩ := Fl.sub_V J2.out vy
  have hx2 := fop (P := Try.prog) (op := .sub) ex2
  have hy2 := fop (P := Try.prog) (op := .sub) ey2
  obtain ⟨dx3, ex3, -⟩ := Fl.sub_V I3.out vx
  obtain ⟨dy3, ey3, -⟩ := Fl.sub_V J3.out vy
  have hx3 := fop (P := Try.prog) (op := .sub) ex3
  have hy3 := fop (P := Try.prog) (op := .sub) ey3
  have VX := Lib.hid vx
  have VY := Lib.hid vy
  clear fx fy jx jy hx hy vx vy ex0 ey0 ex1 ey1 ex2 ey2 ex3 ey3
  obtain ⟨-, -, r0, s0⟩ := C2.up _ _ CC0.out HG.out
  obtain ⟨-, -, r1, s1⟩ := C2.up _ _ CC1.out HG.out
  obtain ⟨-, -, r2, s2⟩ := C2.up _ _ CC2.out HG.out
  obtain ⟨-, -, r3, s3⟩ := C2.up _ _ CC3.out HG.out
  obtain ⟨-, -, r4, s4⟩ := C2.up _ _ CC4.out HG.out
  have n10 := N10.out
  have m01 : ¬ b0 = b1 := fun h => n10 h.symm
  have n20 := N20.out
  have m02 : ¬ b0 = b2 := fun h => n20 h.symm
  have n21 := N21.out
  have m12 : ¬ b1 = b2 := fun h => n21 h.symm
  have n30 := N30.out
  have m03 : ¬ b0 = b3 := fun h => n30 h.symm
  have n31 := N31.out
  have m13 : ¬ b1 = b3 := fun h => n31 h.symm
  have n32 := N32.out
  have m23 : ¬ b2 = b3 := fun h => n32 h.symm
  have n40 := N40.out
  have m04 : ¬ b0 = b4 := fun h => n40 h.symm
  have n41 := N41.out
  have m14 : ¬ b1 = b4 := fun h => n41 h.symm
  have n42 := N42.out
  have m24 : ¬ b2 = b4 := fun h => n42 h.symm
  have n43 := N43.out
  have m34 : ¬ b3 = b4 := fun h => n43 h.symm
  go_wp2
  go_region
  go_wp2
  go_region
  go_wp2
  go_region
  go_wp2
  go_region
  go_wp2
  go_region
  go_wp2
  go_region
  go_wp2
  go_region
  go_wp2
  go_region
  go_wp2
  refine bodyPost_end (results_none rfl _ _ _) rfl ?_
  refine ⟨rfl, mx, my, ⟨by go_simp, by go_simp, ?_, ?_⟩, VX.out, VY.out, ?_⟩
  · simp only [World.frozen?_setCell, World.frozen?_drew]; exact r4
  · simp only [World.frozen?_setCell, World.frozen?_drew]; exact s4
  · repeat (with_reducible first | refine gxDrew ?_ | refine gxSet ?_ G0.out _ | refine gxSet ?_ G1.out _ | refine gxSet ?_ G2.out _ | refine gxSet ?_ G3.out _ | refine gxSet ?_ G4.out _)
    exact GX.of_grow (fun _ h => h.elim) HG.out
end Go.Proofs.Ytelfjglhmccecaa
