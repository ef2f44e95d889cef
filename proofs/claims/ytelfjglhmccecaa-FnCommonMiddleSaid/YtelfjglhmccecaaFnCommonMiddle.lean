import Derived.Test.YtelfjglhmccecaaMidC
import Derived.Test.YtelfjglhmccecaaEqS
import Derived.BigRegion
namespace Go.Proofs.Ytelfjglhmccecaa
open Go.ChangeShapes Go.WideShapes Go.ChangeAt Go.RowKit Go.GrowR
set_option linter.unusedVariables false
set_option linter.unusedSimpArgs false

theorem isI_24 : Fl.IsI 4715268809856909312 16777216 := by
  refine ⟨false, 4503599627370496, -28, by decide +kernel, ?_⟩
  simp only [Fl.dv, Bool.false_eq_true, if_false]
  rw [show (4503599627370496 : Nat) = 16777216 * 2 ^ 28 from by decide, Rat.natCast_mul, ← Fl.p2_nat, Rat.mul_assoc, ← Fl.p2_add]
  rw [show ((28 : Nat) : Int) + -28 = 0 from by decide, Fl.p2_zero, Rat.mul_one]; rfl
theorem eq2_run {x y u v : Nat} {a b : Rat} (hx : Fl.V x a) (hy : Fl.V y b) (hu : Fl.V u a) (hv : Fl.V v b) (w : World) :
    (Op.equalIn 10000 24 (.agg #[.float .f64 x, .float .f64 y]) (.agg #[.float .f64 u, .float .f64 v])).run Try.prog w = .ok true w := by
  have h := run_eqS (P := Try.prog) (t := 24) (tf := 22) (z := .float .f64 0) (n := 8) (by kernel_rfl) (by kernel_rfl) (by kernel_rfl) (by kernel_rfl) (l := [("X", 0), ("Y", 1)]) (by kernel_rfl) (by decide) [x, y] [u, v] rfl rfl w
  have e1 : eqF x u = true := Fl.eqV hx hu
  have e2 : eqF y v = true := Fl.eqV hy hv
  simpa [e1, e2] using h
theorem psl4 {w : World} {b x0 y0 x1 y1 x2 y2 x3 y3 : Nat} (h0 : w.cell? ⟨b, 0, none⟩ = some (.float .f64 x0)) (h1 : w.cell? ⟨b, 1, none⟩ = some (.float .f64 y0)) (h2 : w.cell? ⟨b, 2, none⟩ = some (.float .f64 x1)) (h3 : w.cell? ⟨b, 3, none⟩ = some (.float .f64 y1))
    (h4 : w.cell? ⟨b, 4, none⟩ = some (.float .f64 x2)) (h5 : w.cell? ⟨b, 5, none⟩ = some (.float .f64 y2)) (h6 : w.cell? ⟨b, 6, none⟩ = some (.float .f64 x3)) (h7 : w.cell? ⟨b, 7, none⟩ = some (.float .f64 y3)) :
    PSl (.slice (some ⟨b, 0, none⟩) 4 4) [(x0, y0), (x1, y1), (x2, y2), (x3, y3)] w :=
  ⟨_, _, rfl, Nat.le_refl _, .inr ⟨b, 0, rfl, fun i p hi => by
    match i, hi with
    | 0, hi => cases hi; exact ⟨h0, h1⟩
    | 1, hi => cases hi; exact ⟨h2, h3⟩
    | 2, hi => cases hi; exact ⟨h4, h5⟩
    | 3, hi => cases hi; exact ⟨h6, h7⟩⟩⟩
set_option maxRecDepth 100000 in
set_option maxHeartbeats 4000000 in
theorem law_calls (x0 y0 x1 y1 x2 y2 x3 y3 : Nat) (w : World) : Calls Try.prog 3 #[.agg #[.float .f64 x0, .float .f64 y0], .agg #[.float .f64 x1, .float .f64 y1], .agg #[.float .f64 x2, .float .f64 y2], .agg #[.float .f64 x3, .float .f64 y3]] w fun e w' => e = .returned (.bool true) ∧ Grow w w' := by
  have HT := Lib.hid (fun u w h => planeTo_calls 16777216 4715268809856909312 u [(x0, y0), (x1, y1), (x2, y2), (x3, y3)] isI_24 (by decide) w h (by simp))
  cases hb : [(x0, y0), (x1, y1), (x2, y2), (x3, y3)].all (placeB 16777216) with
  | false =>
    have HB := Lib.hid hb; clear hb
    go_enter Try.func3, Try.ntmps3
    go_wp2_with (go_at_call 14; refine (HT.out _ _ (psl4 (by go_simp) (by go_simp) (by go_simp) (by go_simp) (by go_simp) (by go_simp) (by go_simp) (by go_simp))).mono ?_; rintro e w1 ⟨rfl, hg⟩; have HG := Lib.hid ((((((Grow.refl w).alloc _).alloc _).alloc _).alloc _).alloc _ |>.trans hg); rw [HB.out])
    go_ret
    exact ⟨rfl, HG.out⟩
  | true =>
    have HB := Lib.hid hb
    simp only [List.all_cons, List.all_nil, placeB, Bool.and_true, Bool.and_eq_true] at hb
    obtain ⟨⟨hx0, hy0⟩, ⟨hx1, hy1⟩, ⟨hx2, hy2⟩, ⟨hx3, hy3⟩⟩ := hb
    obtain ⟨a0, i0, lx0, ux0⟩ := Fl.wholeB_true hx0
    obtain ⟨e0, j0, ly0, uy0⟩ := Fl.wholeB_true hy0
    obtain ⟨a1, i1, lx1, ux1⟩ := Fl.wholeB_true hx1
    obtain ⟨e1, j1, ly1, uy1⟩ := Fl.wholeB_true hy1
    obtain ⟨a2, i2, lx2, ux2⟩ := Fl.wholeB_true hx2
    obtain ⟨e2, j2, ly2, uy2⟩ := Fl.wholeB_true hy2
    obtain ⟨a3, i3, lx3, ux3⟩ := Fl.wholeB_true hx3
    obtain ⟨e3, j3, ly3, uy3⟩ := Fl.wholeB_true hy3
    clear hx0 hy0 hx1 hy1 hx2 hy2 hx3 hy3
    have HM := Lib.hid (fun w => mid_calls x0 y0 x1 y1 x2 y2 x3 y3 a0 e0 a1 e1 a2 e2 a3 e3 w i0 j0 i1 j1 i2 j2 i3 j3 ⟨lx0, ux0⟩ ⟨ly0, uy0⟩ ⟨lx1, ux1⟩ ⟨ly1, uy1⟩ ⟨lx2, ux2⟩ ⟨ly2, uy2⟩ ⟨lx3, ux3⟩ ⟨ly3, uy3⟩)
    have nLX1 := Fl.fmin_I i0 i1
    have nLX2 := Fl.fmin_I i2 i3
    have nLX := Fl.fmax_I nLX1 nLX2
    have rLX1 := Fl.run_fmin i0 i1 Try.prog
    have rLX2 := Fl.run_fmin i2 i3 Try.prog
    have rLX := Fl.run_fmax nLX1 nLX2 Try.prog
    have nHX1 := Fl.fmax_I i0 i1
    have nHX2 := Fl.fmax_I i2 i3
    have nHX := Fl.fmin_I nHX1 nHX2
    have rHX1 := Fl.run_fmax i0 i1 Try.prog
    have rHX2 := Fl.run_fmax i2 i3 Try.prog
    have rHX := Fl.run_fmin nHX1 nHX2 Try.prog
    obtain ⟨sX, fX, mX⟩ := Fl.add_I nLX nHX (by omega)
    obtain ⟨hX, qX, vX⟩ := Fl.halved_I mX (by omega)
    have FX1 := fop (P := Try.prog) fX
    have FX2 := fop (P := Try.prog) qX
    clear fX qX mX nLX1 nLX2 nHX1 nHX2 nLX nHX
    have VX := Lib.hid vX; clear vX
    generalize hlX : Fl.fmax (Fl.fmin x0 x1) (Fl.fmin x2 x3) = lX at *
    generalize hhX : Fl.fmin (Fl.fmax x0 x1) (Fl.fmax x2 x3) = uX at *
    clear hlX hhX
    have nLY1 := Fl.fmin_I j0 j1
    have nLY2 := Fl.fmin_I j2 j3
    have nLY := Fl.fmax_I nLY1 nLY2
    have rLY1 := Fl.run_fmin j0 j1 Try.prog
    have rLY2 := Fl.run_fmin j2 j3 Try.prog
    have rLY := Fl.run_fmax nLY1 nLY2 Try.prog
    have nHY1 := Fl.fmax_I j0 j1
    have nHY2 := Fl.fmax_I j2 j3
    have nHY := Fl.fmin_I nHY1 nHY2
    have rHY1 := Fl.run_fmax j0 j1 Try.prog
    have rHY2 := Fl.run_fmax j2 j3 Try.prog
    have rHY := Fl.run_fmin nHY1 nHY2 Try.prog
    obtain ⟨sY, fY, mY⟩ := Fl.add_I nLY nHY (by omega)
    obtain ⟨hY, qY, vY⟩ := Fl.halved_I mY (by omega)
    have FY1 := fop (P := Try.prog) fY
    have FY2 := fop (P := Try.prog) qY
    clear fY qY mY nLY1 nLY2 nHY1 nHY2 nLY nHY
    have VY := Lib.hid vY; clear vY
    generalize hlY : Fl.fmax (Fl.fmin y0 y1) (Fl.fmin y2 y3) = lY at *
    generalize hhY : Fl.fmin (Fl.fmax y0 y1) (Fl.fmax y2 y3) = uY at *
    clear hlY hhY
    clear i0 lx0 ux0 j0 ly0 uy0 i1 lx1 ux1 j1 ly1 uy1 i2 lx2 ux2 j2 ly2 uy2 i3 lx3 ux3 j3 ly3 uy3
    have Q := Lib.hid (fun m n h1 h2 => eq2_run (x := m) (y := n) h1 h2 VX.out VY.out)
    have hgd : Try.prog.eqGuardType Try.prog.depth 24 = false := by kernel_rfl
    have BX := Lib.hid (rfl : (FloatKind.f64.format.order lX uX == some .gt) = (FloatKind.f64.format.order lX uX == some .gt))
    go_enter Try.func3, Try.ntmps3
    go_wp2_with (go_at_call 14; refine (HT.out _ _ (psl4 (by go_simp) (by go_simp) (by go_simp) (by go_simp) (by go_simp) (by go_simp) (by go_simp) (by go_simp))).mono ?_; rintro e w1 ⟨rfl, hg⟩; have k00 : w1.cell? ⟨w.heap.size, 0, none⟩ = some (.float .f64 x0) := up_cell (by go_simp) hg; have k01 : w1.cell? ⟨w.heap.size, 1, none⟩ = some (.float .f64 y0) := up_cell (by go_simp) hg; have k10 : w1.cell? ⟨w.heap.size + 1, 0, none⟩ = some (.float .f64 x1) := up_cell (by go_simp) hg; have k11 : w1.cell? ⟨w.heap.size + 1, 1, none⟩ = some (.float .f64 y1) := up_cell (by go_simp) hg; have k20 : w1.cell? ⟨w.heap.size + 1 + 1, 0, none⟩ = some (.float .f64 x2) := up_cell (by go_simp) hg; have k21 : w1.cell? ⟨w.heap.size + 1 + 1, 1, none⟩ = some (.float .f64 y2) := up_cell (by go_simp) hg; have k30 : w1.cell? ⟨w.heap.size + 1 + 1 + 1, 0, none⟩ = some (.float .f64 x3) := up_cell (by go_simp) hg; have k31 : w1.cell? ⟨w.heap.size + 1 + 1 + 1, 1, none⟩ = some (.float .f64 y3) := up_cell (by go_simp) hg; have HG := Lib.hid ((((((Grow.refl w).alloc _).alloc _).alloc _).alloc _).alloc _ |>.trans hg); rw [HB.out])
    clear hg
    have lt0 := cell_lt k00
    dsimp only at lt0
    have lt1 := cell_lt k10
    dsimp only at lt1
    have lt2 := cell_lt k20
    dsimp only at lt2
    have lt3 := cell_lt k30
    dsimp only at lt3
    refine wp_region_grow (fun i => if i = 4 then some (fun _ _ => (fun V _ => V = .float .f64 (Fl.fmin x0 x1))) else if i = 9 then some (fun _ _ => (fun V _ => V = .float .f64 (Fl.fmin x2 x3))) else if i = 10 then some (fun _ _ => (fun V _ => V = .float .f64 lX)) else if i = 15 then some (fun _ _ => (fun V _ => V = .float .f64 (Fl.fmax x0 x1))) else if i = 20 then some (fun _ _ => (fun V _ => V = .float .f64 (Fl.fmax x2 x3))) else if i = 21 then some (fun _ _ => (fun V _ => V = .float .f64 uX)) else none) (by kernel_rfl) (by kernel_rfl) ?_ ?_
    · intro i Φ h lo hi v
      (repeat' split at h) <;> cases h
      · exact fun _ _ h _ => h
      · exact fun _ _ h _ => h
      · exact fun _ _ h _ => h
      · exact fun _ _ h _ => h
      · exact fun _ _ h _ => h
      · exact fun _ _ h _ => h
    repeat (first
      | (refine wpGrow_skip (by rfl) ?_; simp only [Act.put, List.setIfInBounds_toArray, List.set_cons_zero, List.set_cons_succ, Nat.reduceAdd])
      | (refine wpGrow_det' (by rfl) (by rfl) ?_; apply Exists.intro; refine ⟨fun w' hc hh => ?_, ?_⟩; (have hcell := grow_cell hc; clear hc hh; go_simp; rfl); simp only [Act.put, List.setIfInBounds_toArray, List.set_cons_zero, List.set_cons_succ, Nat.reduceAdd]))
    refine wpGrow_eff' (by rfl) (by rfl) (fun w' hc hh => ?_) (fun v lo hi w' hap hc hh hv => ?_)
    · clear hc hh
      go_simp
      exact EffVal.mk (Grow.refl _) rfl
    obtain rfl := hv
    clear hc hh hap w'
    simp only [Act.put, List.setIfInBounds_toArray, List.set_cons_zero, List.set_cons_succ, Nat.reduceAdd]
    repeat (first
      | (refine wpGrow_skip (by rfl) ?_; simp only [Act.put, List.setIfInBounds_toArray, List.set_cons_zero, List.set_cons_succ, Nat.reduceAdd])
      | (refine wpGrow_det' (by rfl) (by rfl) ?_; apply Exists.intro; refine ⟨fun w' hc hh => ?_, ?_⟩; (have hcell := grow_cell hc; clear hc hh; go_simp; rfl); simp only [Act.put, List.setIfInBounds_toArray, List.set_cons_zero, List.set_cons_succ, Nat.reduceAdd]))
    refine wpGrow_eff' (by rfl) (by rfl) (fun w' hc hh => ?_) (fun v lo hi w' hap hc hh hv => ?_)
    · clear hc hh
      go_simp
      exact EffVal.mk (Grow.refl _) rfl
    obtain rfl := hv
    clear hc hh hap w'
    simp only [Act.put, List.setIfInBounds_toArray, List.set_cons_zero, List.set_cons_succ, Nat.reduceAdd]
    repeat (first
      | (refine wpGrow_skip (by rfl) ?_; simp only [Act.put, List.setIfInBounds_toArray, List.set_cons_zero, List.set_cons_succ, Nat.reduceAdd])
      | (refine wpGrow_det' (by rfl) (by rfl) ?_; apply Exists.intro; refine ⟨fun w' hc hh => ?_, ?_⟩; (have hcell := grow_cell hc; clear hc hh; go_simp; rfl); simp only [Act.put, List.setIfInBounds_toArray, List.set_cons_zero, List.set_cons_succ, Nat.reduceAdd]))
    refine wpGrow_eff' (by rfl) (by rfl) (fun w' hc hh => ?_) (fun v lo hi w' hap hc hh hv => ?_)
    · clear hc hh
      go_simp
      exact EffVal.mk (Grow.refl _) rfl
    obtain rfl := hv
    clear hc hh hap w'
    simp only [Act.put, List.setIfInBounds_toArray, List.set_cons_zero, List.set_cons_succ, Nat.reduceAdd]
    repeat (first
      | (refine wpGrow_skip (by rfl) ?_; simp only [Act.put, List.setIfInBounds_toArray, List.set_cons_zero, List.set_cons_succ, Nat.reduceAdd])
      | (refine wpGrow_det' (by rfl) (by rfl) ?_; apply Exists.intro; refine ⟨fun w' hc hh => ?_, ?_⟩; (have hcell := grow_cell hc; clear hc hh; go_simp; rfl); simp only [Act.put, List.setIfInBounds_toArray, List.set_cons_zero, List.set_cons_succ, Nat.reduceAdd]))
    refine wpGrow_eff' (by rfl) (by rfl) (fun w' hc hh => ?_) (fun v lo hi w' hap hc hh hv => ?_)
    · clear hc hh
      go_simp
      exact EffVal.mk (Grow.refl _) rfl
    obtain rfl := hv
    clear hc hh hap w'
    simp only [Act.put, List.setIfInBounds_toArray, List.set_cons_zero, List.set_cons_succ, Nat.reduceAdd]
    repeat (first
      | (refine wpGrow_skip (by rfl) ?_; simp only [Act.put, List.setIfInBounds_toArray, List.set_cons_zero, List.set_cons_succ, Nat.reduceAdd])
      | (refine wpGrow_det' (by rfl) (by rfl) ?_; apply Exists.intro; refine ⟨fun w' hc hh => ?_, ?_⟩; (have hcell := grow_cell hc; clear hc hh; go_simp; rfl); simp only [Act.put, List.setIfInBounds_toArray, List.set_cons_zero, List.set_cons_succ, Nat.reduceAdd]))
    refine wpGrow_eff' (by rfl) (by rfl) (fun w' hc hh => ?_) (fun v lo hi w' hap hc hh hv => ?_)
    · clear hc hh
      go_simp
      exact EffVal.mk (Grow.refl _) rfl
    obtain rfl := hv
    clear hc hh hap w'
    simp only [Act.put, List.setIfInBounds_toArray, List.set_cons_zero, List.set_cons_succ, Nat.reduceAdd]
    repeat (first
      | (refine wpGrow_skip (by rfl) ?_; simp only [Act.put, List.setIfInBounds_toArray, List.set_cons_zero, List.set_cons_succ, Nat.reduceAdd])
      | (refine wpGrow_det' (by rfl) (by rfl) ?_; apply Exists.intro; refine ⟨fun w' hc hh => ?_, ?_⟩; (have hcell := grow_cell hc; clear hc hh; go_simp; rfl); simp only [Act.put, List.setIfInBounds_toArray, List.set_cons_zero, List.set_cons_succ, Nat.reduceAdd]))
    refine wpGrow_eff' (by rfl) (by rfl) (fun w' hc hh => ?_) (fun v lo hi w' hap hc hh hv => ?_)
    · clear hc hh
      go_simp
      exact EffVal.mk (Grow.refl _) rfl
    obtain rfl := hv
    clear hc hh hap w'
    simp only [Act.put, List.setIfInBounds_toArray, List.set_cons_zero, List.set_cons_succ, Nat.reduceAdd]
    repeat (first
      | (refine wpGrow_skip (by rfl) ?_; simp only [Act.put, List.setIfInBounds_toArray, List.set_cons_zero, List.set_cons_succ, Nat.reduceAdd])
      | (refine wpGrow_det' (by rfl) (by rfl) ?_; apply Exists.intro; refine ⟨fun w' hc hh => ?_, ?_⟩; (have hcell := grow_cell hc; clear hc hh; go_simp; rfl); simp only [Act.put, List.setIfInBounds_toArray, List.set_cons_zero, List.set_cons_succ, Nat.reduceAdd]))
    refine wpGrow_nil ?_
    intro w2 hg hh
    have G2 := Lib.hid (HG.out.trans hg)
    have k00_ := up_cell k00 hg
    clear k00
    have k00 := k00_
    clear k00_
    have k01_ := up_cell k01 hg
    clear k01
    have k01 := k01_
    clear k01_
    have k10_ := up_cell k10 hg
    clear k10
    have k10 := k10_
    clear k10_
    have k11_ := up_cell k11 hg
    clear k11
    have k11 := k11_
    clear k11_
    have k20_ := up_cell k20 hg
    clear k20
    have k20 := k20_
    clear k20_
    have k21_ := up_cell k21 hg
    clear k21
    have k21 := k21_
    clear k21_
    have k30_ := up_cell k30 hg
    clear k30
    have k30 := k30_
    clear k30_
    have k31_ := up_cell k31 hg
    clear k31
    have k31 := k31_
    clear k31_
    clear hg hh lt0 lt1 lt2 lt3
    have lt0 := cell_lt k00
    dsimp only at lt0
    have lt1 := cell_lt k10
    dsimp only at lt1
    have lt2 := cell_lt k20
    dsimp only at lt2
    have lt3 := cell_lt k30
    dsimp only at lt3
    go_wp2
    refine wp_region_grow (fun i => if i = 4 then some (fun _ _ => (fun V _ => V = .float .f64 (Fl.fmin y0 y1))) else if i = 9 then some (fun _ _ => (fun V _ => V = .float .f64 (Fl.fmin y2 y3))) else if i = 10 then some (fun _ _ => (fun V _ => V = .float .f64 lY)) else if i = 15 then some (fun _ _ => (fun V _ => V = .float .f64 (Fl.fmax y0 y1))) else if i = 20 then some (fun _ _ => (fun V _ => V = .float .f64 (Fl.fmax y2 y3))) else if i = 21 then some (fun _ _ => (fun V _ => V = .float .f64 uY)) else none) (by kernel_rfl) (by kernel_rfl) ?_ ?_
    · intro i Φ h lo hi v
      (repeat' split at h) <;> cases h
      · exact fun _ _ h _ => h
      · exact fun _ _ h _ => h
      · exact fun _ _ h _ => h
      · exact fun _ _ h _ => h
      · exact fun _ _ h _ => h
      · exact fun _ _ h _ => h
    repeat (first
      | (refine wpGrow_skip (by rfl) ?_; simp only [Act.put, List.setIfInBounds_toArray, List.set_cons_zero, List.set_cons_succ, Nat.reduceAdd])
      | (refine wpGrow_det' (by rfl) (by rfl) ?_; apply Exists.intro; refine ⟨fun w' hc hh => ?_, ?_⟩; (have hcell := grow_cell hc; clear hc hh; go_simp; rfl); simp only [Act.put, List.setIfInBounds_toArray, List.set_cons_zero, List.set_cons_succ, Nat.reduceAdd]))
    refine wpGrow_eff' (by rfl) (by rfl) (fun w' hc hh => ?_) (fun v lo hi w' hap hc hh hv => ?_)
    · clear hc hh
      go_simp
      exact EffVal.mk (Grow.refl _) rfl
    obtain rfl := hv
    clear hc hh hap w'
    simp only [Act.put, List.setIfInBounds_toArray, List.set_cons_zero, List.set_cons_succ, Nat.reduceAdd]
    repeat (first
      | (refine wpGrow_skip (by rfl) ?_; simp only [Act.put, List.setIfInBounds_toArray, List.set_cons_zero, List.set_cons_succ, Nat.reduceAdd])
      | (refine wpGrow_det' (by rfl) (by rfl) ?_; apply Exists.intro; refine ⟨fun w' hc hh => ?_, ?_⟩; (have hcell := grow_cell hc; clear hc hh; go_simp; rfl); simp only [Act.put, List.setIfInBounds_toArray, List.set_cons_zero, List.set_cons_succ, Nat.reduceAdd]))
    refine wpGrow_eff' (by rfl) (by rfl) (fun w' hc hh => ?_) (fun v lo hi w' hap hc hh hv => ?_)
    · clear hc hh
      go_simp
      exact EffVal.mk (Grow.refl _) rfl
    obtain rfl := hv
    clear hc hh hap w'
    simp only [Act.put, List.setIfInBounds_toArray, List.set_cons_zero, List.set_cons_succ, Nat.reduceAdd]
    repeat (first
      | (refine wpGrow_skip (by rfl) ?_; simp only [Act.put, List.setIfInBounds_toArray, List.set_cons_zero, List.set_cons_succ, Nat.reduceAdd])
      | (refine wpGrow_det' (by rfl) (by rfl) ?_; apply Exists.intro; refine ⟨fun w' hc hh => ?_, ?_⟩; (have hcell := grow_cell hc; clear hc hh; go_simp; rfl); simp only [Act.put, List.setIfInBounds_toArray, List.set_cons_zero, List.set_cons_succ, Nat.reduceAdd]))
    refine wpGrow_eff' (by rfl) (by rfl) (fun w' hc hh => ?_) (fun v lo hi w' hap hc hh hv => ?_)
    · clear hc hh
      go_simp
      exact EffVal.mk (Grow.refl _) rfl
    obtain rfl := hv
    clear hc hh hap w'
    simp only [Act.put, List.setIfInBounds_toArray, List.set_cons_zero, List.set_cons_succ, Nat.reduceAdd]
    repeat (first
      | (refine wpGrow_skip (by rfl) ?_; simp only [Act.put, List.setIfInBounds_toArray, List.set_cons_zero, List.set_cons_succ, Nat.reduceAdd])
      | (refine wpGrow_det' (by rfl) (by rfl) ?_; apply Exists.intro; refine ⟨fun w' hc hh => ?_, ?_⟩; (have hcell := grow_cell hc; clear hc hh; go_simp; rfl); simp only [Act.put, List.setIfInBounds_toArray, List.set_cons_zero, List.set_cons_succ, Nat.reduceAdd]))
    refine wpGrow_eff' (by rfl) (by rfl) (fun w' hc hh => ?_) (fun v lo hi w' hap hc hh hv => ?_)
    · clear hc hh
      go_simp
      exact EffVal.mk (Grow.refl _) rfl
    obtain rfl := hv
    clear hc hh hap w'
    simp only [Act.put, List.setIfInBounds_toArray, List.set_cons_zero, List.set_cons_succ, Nat.reduceAdd]
    repeat (first
      | (refine wpGrow_skip (by rfl) ?_; simp only [Act.put, List.setIfInBounds_toArray, List.set_cons_zero, List.set_cons_succ, Nat.reduceAdd])
      | (refine wpGrow_det' (by rfl) (by rfl) ?_; apply Exists.intro; refine ⟨fun w' hc hh => ?_, ?_⟩; (have hcell := grow_cell hc; clear hc hh; go_simp; rfl); simp only [Act.put, List.setIfInBounds_toArray, List.set_cons_zero, List.set_cons_succ, Nat.reduceAdd]))
    refine wpGrow_eff' (by rfl) (by rfl) (fun w' hc hh => ?_) (fun v lo hi w' hap hc hh hv => ?_)
    · clear hc hh
      go_simp
      exact EffVal.mk (Grow.refl _) rfl
    obtain rfl := hv
    clear hc hh hap w'
    simp only [Act.put, List.setIfInBounds_toArray, List.set_cons_zero, List.set_cons_succ, Nat.reduceAdd]
    repeat (first
      | (refine wpGrow_skip (by rfl) ?_; simp only [Act.put, List.setIfInBounds_toArray, List.set_cons_zero, List.set_cons_succ, Nat.reduceAdd])
      | (refine wpGrow_det' (by rfl) (by rfl) ?_; apply Exists.intro; refine ⟨fun w' hc hh => ?_, ?_⟩; (have hcell := grow_cell hc; clear hc hh; go_simp; rfl); simp only [Act.put, List.setIfInBounds_toArray, List.set_cons_zero, List.set_cons_succ, Nat.reduceAdd]))
    refine wpGrow_eff' (by rfl) (by rfl) (fun w' hc hh => ?_) (fun v lo hi w' hap hc hh hv => ?_)
    · clear hc hh
      go_simp
      exact EffVal.mk (Grow.refl _) rfl
    obtain rfl := hv
    clear hc hh hap w'
    simp only [Act.put, List.setIfInBounds_toArray, List.set_cons_zero, List.set_cons_succ, Nat.reduceAdd]
    repeat (first
      | (refine wpGrow_skip (by rfl) ?_; simp only [Act.put, List.setIfInBounds_toArray, List.set_cons_zero, List.set_cons_succ, Nat.reduceAdd])
      | (refine wpGrow_det' (by rfl) (by rfl) ?_; apply Exists.intro; refine ⟨fun w' hc hh => ?_, ?_⟩; (have hcell := grow_cell hc; clear hc hh; go_simp; rfl); simp only [Act.put, List.setIfInBounds_toArray, List.set_cons_zero, List.set_cons_succ, Nat.reduceAdd]))
    refine wpGrow_nil ?_
    intro w3 hg hh
    have G3 := Lib.hid (G2.out.trans hg)
    have k00_ := up_cell k00 hg
    clear k00
    have k00 := k00_
    clear k00_
    have k01_ := up_cell k01 hg
    clear k01
    have k01 := k01_
    clear k01_
    have k10_ := up_cell k10 hg
    clear k10
    have k10 := k10_
    clear k10_
    have k11_ := up_cell k11 hg
    clear k11
    have k11 := k11_
    clear k11_
    have k20_ := up_cell k20 hg
    clear k20
    have k20 := k20_
    clear k20_
    have k21_ := up_cell k21 hg
    clear k21
    have k21 := k21_
    clear k21_
    have k30_ := up_cell k30 hg
    clear k30
    have k30 := k30_
    clear k30_
    have k31_ := up_cell k31 hg
    clear k31
    have k31 := k31_
    clear k31_
    clear hg hh lt0 lt1 lt2 lt3
    have lt0 := cell_lt k00
    dsimp only at lt0
    have lt1 := cell_lt k10
    dsimp only at lt1
    have lt2 := cell_lt k20
    dsimp only at lt2
    have lt3 := cell_lt k30
    dsimp only at lt3
    cases tX : (FloatKind.f64.format.order lX uX == some .gt) with
    | true =>
      go_wp2
      go_ret
      exact ⟨rfl, G3.out⟩
    | false =>
      cases tY : (FloatKind.f64.format.order lY uY == some .gt) with
      | true =>
        go_wp2
        go_ret
        exact ⟨rfl, G3.out⟩
      | false =>
        go_wp2_with (go_at_call 15; refine (HM.out _).mono ?_; rintro e w4 ⟨m, n, rfl, hm, hn, hg4⟩; have EQ := Q.out m n hm hn; have G4 := Lib.hid (G3.out.trans hg4); clear hm hn hg4)
        go_ret
        exact ⟨rfl, G4.out⟩
end Go.Proofs.Ytelfjglhmccecaa
