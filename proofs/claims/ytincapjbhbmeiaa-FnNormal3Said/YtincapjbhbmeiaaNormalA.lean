import Derived.Test.YtincapjbhbmeiaaBox3
import Derived.Test.YtincapjbhbmeiaaEqS
namespace Go.Proofs.Ytincapjbhbmeiaa
open Go.ChangeShapes Go.WideShapes Go.ChangeAt Go.RowKit Go.GrowR
set_option linter.unusedVariables false
set_option linter.unusedSimpArgs false
def FP3 (i j k : Int) (V : Value) (_ : World) : Prop := ∃ x y z, V = P3V x y z ∧ (Fl.IsI x i ∧ x < 2 ^ 64) ∧ (Fl.IsI y j ∧ y < 2 ^ 64) ∧ (Fl.IsI z k ∧ z < 2 ^ 64)
theorem FP3.up {i j k : Int} {V : Value} : Up (FP3 i j k V) := fun _ _ h _ => h
theorem fbits_lt {op : BinOp} {x y z : Nat} (h : floatBits op .f64 x y = some z) : z < 2 ^ 64 := by
  have := floatBits_wf h
  simpa [Lit.wf] using this
abbrev Bd (n m : Int) : Prop := -m ≤ n ∧ n ≤ m
set_option maxHeartbeats 1000000 in
theorem cross3_calls (x y z u v t : Nat) (a b c p q r : Int) (w : World) (hx : Fl.IsI x a) (dx : Bd a 1048576) (hy : Fl.IsI y b) (dy : Bd b 1048576) (hz : Fl.IsI z c) (dz : Bd c 1048576) (hu : Fl.IsI u p) (du : Bd p 1048576) (hv : Fl.IsI v q) (dv : Bd q 1048576) (ht : Fl.IsI t r) (dt : Bd r 1048576) :
    Calls Try.prog 60 #[P3V x y z, P3V u v t] w (EffPost (fun _ _ => FP3 (b * r - c * q) (c * p - a * r) (a * q - b * p)) w) := by
  have m0 := mul_bound dy.1 dy.2 dt.1 dt.2
  have m1 := mul_bound dz.1 dz.2 dv.1 dv.2
  have m2 := mul_bound dz.1 dz.2 du.1 du.2
  have m3 := mul_bound dx.1 dx.2 dt.1 dt.2
  have m4 := mul_bound dx.1 dx.2 dv.1 dv.2
  have m5 := mul_bound dy.1 dy.2 du.1 du.2
  obtain ⟨z0, e0, i0⟩ := Fl.mul_I hy ht (by omega)
  obtain ⟨z1, e1, i1⟩ := Fl.mul_I hz hv (by omega)
  obtain ⟨z2, e2, i2⟩ := Fl.mul_I hz hu (by omega)
  obtain ⟨z3, e3, i3⟩ := Fl.mul_I hx ht (by omega)
  obtain ⟨z4, e4, i4⟩ := Fl.mul_I hx hv (by omega)
  obtain ⟨z5, e5, i5⟩ := Fl.mul_I hy hu (by omega)
  obtain ⟨s0, g0, j0⟩ := Fl.sub_I i0 i1 (by omega)
  obtain ⟨s1, g1, j1⟩ := Fl.sub_I i2 i3 (by omega)
  obtain ⟨s2, g2, j2⟩ := Fl.sub_I i4 i5 (by omega)
  have f0 := fop (P := Try.prog) e0
  have f1 := fop (P := Try.prog) e1
  have f2 := fop (P := Try.prog) e2
  have f3 := fop (P := Try.prog) e3
  have f4 := fop (P := Try.prog) e4
  have f5 := fop (P := Try.prog) e5
  have l0 := fop (P := Try.prog) g0
  have l1 := fop (P := Try.prog) g1
  have l2 := fop (P := Try.prog) g2
  have I := Lib.hid (show (FP3 (b * r - c * q) (c * p - a * r) (a * q - b * p) (P3V s0 s1 s2) w) from ⟨_, _, _, rfl, ⟨j0, fbits_lt g0⟩, ⟨j1, fbits_lt g1⟩, ⟨j2, fbits_lt g2⟩⟩)
  clear hx dx hy dy hz dz hu du hv dv ht dt m0 e0 i0 m1 e1 i1 m2 e2 i2 m3 e3 i3 m4 e4 i4 m5 e5 i5 g0 j0 g1 j1 g2 j2
  go_enter Try.func60, Try.ntmps60
  go_wp2
  exact bodyPost_ret (v := P3V s0 s1 s2) (by simp [results, Try.results60, go_sem]) rfl (EffPost.mk ((((Grow.refl w).alloc _).alloc _).alloc _) I.out)
theorem vec3_eff (x y z : Nat) (w : World) : Calls Try.prog 39 #[P3V x y z] w (EffPost (fun _ _ V _ => V = P3V x y z) w) := (vec3_calls x y z w).mono fun e w' ⟨h, hg⟩ => by subst h; exact EffPost.mk hg rfl
theorem plainP3_eff (x y z : Nat) (w : World) : Calls Try.prog 44 #[P3V x y z] w (EffPost (fun _ _ V _ => V = P3V x y z) w) := (plainP3_calls x y z w).mono fun e w' ⟨h, hg⟩ => by subst h; exact EffPost.mk hg rfl
theorem subI_calls (x y z u v t : Nat) (a b c p q r : Int) (w : World) (hx : Fl.IsI x a) (dx : Bd a 1048576) (hy : Fl.IsI y b) (dy : Bd b 1048576) (hz : Fl.IsI z c) (dz : Bd c 1048576) (hu : Fl.IsI u p) (du : Bd p 1048576) (hv : Fl.IsI v q) (dv : Bd q 1048576) (ht : Fl.IsI t r) (dt : Bd r 1048576) :
    Calls Try.prog 64 #[P3V x y z, P3V u v t] w (EffPost (fun _ _ => FP3 (a - p) (b - q) (c - r)) w) := by
  obtain ⟨s0, g0, j0⟩ := Fl.sub_I hx hu (by omega)
  obtain ⟨s1, g1, j1⟩ := Fl.sub_I hy hv (by omega)
  obtain ⟨s2, g2, j2⟩ := Fl.sub_I hz ht (by omega)
  refine (sub3_calls x y z u v t s0 s1 s2 w g0 g1 g2).mono ?_
  rintro e w' ⟨rfl, hg⟩
  exact EffPost.mk hg ⟨_, _, _, rfl, ⟨j0, fbits_lt g0⟩, ⟨j1, fbits_lt g1⟩, ⟨j2, fbits_lt g2⟩⟩
set_option maxHeartbeats 2000000 in
theorem sides_calls (x0 y0 z0 x1 y1 z1 x2 y2 z2 : Nat) (a0 b0 c0 a1 b1 c1 a2 b2 c2 : Int) (w : World) (hx0 : Fl.IsI x0 a0) (dx0 : Bd a0 262144) (hy0 : Fl.IsI y0 b0) (dy0 : Bd b0 262144) (hz0 : Fl.IsI z0 c0) (dz0 : Bd c0 262144) (hx1 : Fl.IsI x1 a1) (dx1 : Bd a1 262144) (hy1 : Fl.IsI y1 b1) (dy1 : Bd b1 262144) (hz1 : Fl.IsI z1 c1) (dz1 : Bd c1 262144) (hx2 : Fl.IsI x2 a2) (dx2 : Bd a2 262144) (hy2 : Fl.IsI y2 b2) (dy2 : Bd b2 262144) (hz2 : Fl.IsI z2 c2) (dz2 : Bd c2 262144) :
    Calls Try.prog 59 #[.agg #[.float .f64 x0, .float .f64 y0, .float .f64 z0, .float .f64 x1, .float .f64 y1, .float .f64 z1, .float .f64 x2, .float .f64 y2, .float .f64 z2]] w (EffPost (fun _ _ V w => ∃ A B C, V = .tuple #[A, B, C] ∧ FP3 (a1 - a0) (b1 - b0) (c1 - c0) A w ∧ FP3 (a2 - a1) (b2 - b1) (c2 - c1) B w ∧ FP3 (a0 - a2) (b0 - b2) (c0 - c2) C w) w) := by
  have K0 := Lib.hid (fun w => subI_calls x1 y1 z1 x0 y0 z0 a1 b1 c1 a0 b0 c0 w hx1 ⟨by omega, by omega⟩ hy1 ⟨by omega, by omega⟩ hz1 ⟨by omega, by omega⟩ hx0 ⟨by omega, by omega⟩ hy0 ⟨by omega, by omega⟩ hz0 ⟨by omega, by omega⟩)
  have K1 := Lib.hid (fun w => subI_calls x2 y2 z2 x1 y1 z1 a2 b2 c2 a1 b1 c1 w hx2 ⟨by omega, by omega⟩ hy2 ⟨by omega, by omega⟩ hz2 ⟨by omega, by omega⟩ hx1 ⟨by omega, by omega⟩ hy1 ⟨by omega, by omega⟩ hz1 ⟨by omega, by omega⟩)
  have K2 := Lib.hid (fun w => subI_calls x0 y0 z0 x2 y2 z2 a0 b0 c0 a2 b2 c2 w hx0 ⟨by omega, by omega⟩ hy0 ⟨by omega, by omega⟩ hz0 ⟨by omega, by omega⟩ hx2 ⟨by omega, by omega⟩ hy2 ⟨by omega, by omega⟩ hz2 ⟨by omega, by omega⟩)
  clear hx0 dx0 hy0 dy0 hz0 dz0 hx1 dx1 hy1 dy1 hz1 dz1 hx2 dx2 hy2 dy2 hz2 dz2
  go_enter Try.func59, Try.ntmps59
  go_wp2
  refine wp_region_grow_tail 15 (fun i => if i = 4 then some (fun _ _ => FP3 (a1 - a0) (b1 - b0) (c1 - c0)) else if i = 9 then some (fun _ _ => FP3 (a2 - a1) (b2 - b1) (c2 - c1)) else if i = 14 then some (fun _ _ => FP3 (a0 - a2) (b0 - b2) (c0 - c2)) else none) (by kernel_rfl) (by kernel_rfl) ?_ ?_
  · intro i Φ h lo hi v
    (repeat' split at h) <;> cases h
    · exact FP3.up
    · exact FP3.up
    · exact FP3.up
  simp only [List.take_succ_cons, List.take_zero, List.drop_succ_cons, List.drop_zero]
  repeat (first
    | (refine wpGrow_skip (by rfl) ?_; simp only [Act.put, List.setIfInBounds_toArray, List.set_cons_zero, List.set_cons_succ, Nat.reduceAdd])
    | (refine wpGrow_det' (by rfl) (by rfl) ?_; apply Exists.intro; refine ⟨fun w' hc hh => ?_, ?_⟩; (have hcell := grow_cell hc; clear hc hh; go_simp; rfl); simp only [Act.put, List.setIfInBounds_toArray, List.set_cons_zero, List.set_cons_succ, Nat.reduceAdd]))
  refine wpGrow_eff' (by rfl) (by rfl) (fun w' hc hh => ?_) (fun v lo hi w' hap hc hh hv => ?_)
  · clear hc hh
    go_simp
    go_at_call 64
    exact K0.out _
  obtain ⟨s00, s01, s02, rfl, q0⟩ := hv
  have Q0 := Lib.hid q0; clear q0
  clear hc hh hap w'
  simp only [Act.put, List.setIfInBounds_toArray, List.set_cons_zero, List.set_cons_succ, Nat.reduceAdd]
  repeat (first
    | (refine wpGrow_skip (by rfl) ?_; simp only [Act.put, List.setIfInBounds_toArray, List.set_cons_zero, List.set_cons_succ, Nat.reduceAdd])
    | (refine wpGrow_det' (by rfl) (by rfl) ?_; apply Exists.intro; refine ⟨fun w' hc hh => ?_, ?_⟩; (have hcell := grow_cell hc; clear hc hh; go_simp; rfl); simp only [Act.put, List.setIfInBounds_toArray, List.set_cons_zero, List.set_cons_succ, Nat.reduceAdd]))
  refine wpGrow_eff' (by rfl) (by rfl) (fun w' hc hh => ?_) (fun v lo hi w' hap hc hh hv => ?_)
  · clear hc hh
    go_simp
    go_at_call 64
    exact K1.out _
  obtain ⟨s10, s11, s12, rfl, q1⟩ := hv
  have Q1 := Lib.hid q1; clear q1
  clear hc hh hap w'
  simp only [Act.put, List.setIfInBounds_toArray, List.set_cons_zero, List.set_cons_succ, Nat.reduceAdd]
  repeat (first
    | (refine wpGrow_skip (by rfl) ?_; simp only [Act.put, List.setIfInBounds_toArray, List.set_cons_zero, List.set_cons_succ, Nat.reduceAdd])
    | (refine wpGrow_det' (by rfl) (by rfl) ?_; apply Exists.intro; refine ⟨fun w' hc hh => ?_, ?_⟩; (have hcell := grow_cell hc; clear hc hh; go_simp; rfl); simp only [Act.put, List.setIfInBounds_toArray, List.set_cons_zero, List.set_cons_succ, Nat.reduceAdd]))
  refine wpGrow_eff' (by rfl) (by rfl) (fun w' hc hh => ?_) (fun v lo hi w' hap hc hh hv => ?_)
  · clear hc hh
    go_simp
    go_at_call 64
    exact K2.out _
  obtain ⟨s20, s21, s22, rfl, q2⟩ := hv
  have Q2 := Lib.hid q2; clear q2
  clear hc hh hap w'
  simp only [Act.put, List.setIfInBounds_toArray, List.set_cons_zero, List.set_cons_succ, Nat.reduceAdd]
  repeat (first
    | (refine wpGrow_skip (by rfl) ?_; simp only [Act.put, List.setIfInBounds_toArray, List.set_cons_zero, List.set_cons_succ, Nat.reduceAdd])
    | (refine wpGrow_det' (by rfl) (by rfl) ?_; apply Exists.intro; refine ⟨fun w' hc hh => ?_, ?_⟩; (have hcell := grow_cell hc; clear hc hh; go_simp; rfl); simp only [Act.put, List.setIfInBounds_toArray, List.set_cons_zero, List.set_cons_succ, Nat.reduceAdd]))
  refine wpGrow_nil ?_
  intro w1 hg hh
  clear hh
  have hcell := grow_cell hg
  have hfr := grow_frozen hg
  go_wp2
  refine bodyPost_ret (v := .tuple #[P3V s00 s01 s02, P3V s10 s11 s12, P3V s20 s21 s22]) (by simp [results, Try.results59, go_sem, hcell]) rfl (EffPost.mk (((((((((((((((Grow.refl w).alloc _).alloc _).alloc _).alloc _).trans hg).setCell (by simp <;> omega) _).setCell (by simp <;> omega) _).setCell (by simp <;> omega) _).setCell (by simp <;> omega) _).setCell (by simp <;> omega) _).setCell (by simp <;> omega) _).setCell (by simp <;> omega) _).setCell (by simp <;> omega) _).setCell (by simp <;> omega) _) ⟨_, _, _, rfl, ⟨_, _, _, rfl, Q0.out⟩, ⟨_, _, _, rfl, Q1.out⟩, ⟨_, _, _, rfl, Q2.out⟩⟩)
set_option maxHeartbeats 2000000 in
theorem rnormal_calls (x0 y0 z0 x1 y1 z1 x2 y2 z2 : Nat) (a0 b0 c0 a1 b1 c1 a2 b2 c2 : Int) (w : World) (hx0 : Fl.IsI x0 a0) (dx0 : Bd a0 262144) (hy0 : Fl.IsI y0 b0) (dy0 : Bd b0 262144) (hz0 : Fl.IsI z0 c0) (dz0 : Bd c0 262144) (hx1 : Fl.IsI x1 a1) (dx1 : Bd a1 262144) (hy1 : Fl.IsI y1 b1) (dy1 : Bd b1 262144) (hz1 : Fl.IsI z1 c1) (dz1 : Bd c1 262144) (hx2 : Fl.IsI x2 a2) (dx2 : Bd a2 262144) (hy2 : Fl.IsI y2 b2) (dy2 : Bd b2 262144) (hz2 : Fl.IsI z2 c2) (dz2 : Bd c2 262144) :
    Calls Try.prog 46 #[.agg #[.float .f64 x0, .float .f64 y0, .float .f64 z0, .float .f64 x1, .float .f64 y1, .float .f64 z1, .float .f64 x2, .float .f64 y2, .float .f64 z2]] w (EffPost (fun _ _ => FP3 ((b1 - b0) * (c2 - c1) - (c1 - c0) * (b2 - b1)) ((c1 - c0) * (a2 - a1) - (a1 - a0) * (c2 - c1)) ((a1 - a0) * (b2 - b1) - (b1 - b0) * (a2 - a1))) w) := by
  have K := Lib.hid (fun w => sides_calls x0 y0 z0 x1 y1 z1 x2 y2 z2 a0 b0 c0 a1 b1 c1 a2 b2 c2 w hx0 dx0 hy0 dy0 hz0 dz0 hx1 dx1 hy1 dy1 hz1 dz1 hx2 dx2 hy2 dy2 hz2 dz2)
  have HB := Lib.hid (show Bd (a1 - a0) 1048576 ∧ Bd (b1 - b0) 1048576 ∧ Bd (c1 - c0) 1048576 ∧ Bd (a2 - a1) 1048576 ∧ Bd (b2 - b1) 1048576 ∧ Bd (c2 - c1) 1048576 from ⟨⟨by omega, by omega⟩, ⟨by omega, by omega⟩, ⟨by omega, by omega⟩, ⟨by omega, by omega⟩, ⟨by omega, by omega⟩, ⟨by omega, by omega⟩⟩)
  clear hx0 dx0 hy0 dy0 hz0 dz0 hx1 dx1 hy1 dy1 hz1 dz1 hx2 dx2 hy2 dy2 hz2 dz2
  go_enter Try.func46, Try.ntmps46
  go_wp2_with (go_at_call 59; refine (K.out _).mono ?_; rintro e w1 ⟨V, rfl, hg, A, B, C, rfl, ⟨s0, s1, s2, rfl, qa⟩, ⟨t0, t1, t2, rfl, qb⟩, ⟨r0, r1, r2, rfl, qc⟩⟩; have QA := Lib.hid qa; have QB := Lib.hid qb; clear qa qb qc; have hcell := grow_cell hg; have hfr := grow_frozen hg)
  refine (cross3_calls _ _ _ _ _ _ _ _ _ _ _ _ _ QA.out.1.1 HB.out.1 QA.out.2.1.1 HB.out.2.1 QA.out.2.2.1 HB.out.2.2.1 QB.out.1.1 HB.out.2.2.2.1 QB.out.2.1.1 HB.out.2.2.2.2.1 QB.out.2.2.1 HB.out.2.2.2.2.2).mono ?_
  rintro e w2 ⟨V, rfl, hg2, n0, n1, n2, rfl, qn⟩
  have QN := Lib.hid qn; clear qn
  have hgt := (((hg.alloc _).alloc _).alloc _).trans hg2
  clear hcell hfr
  have hcell := grow_cell hgt
  have hfr := grow_frozen hgt
  clear hg hg2
  go_wp2
  refine bodyPost_ret (v := P3V n0 n1 n2) (by simp [results, Try.results46, go_sem, hcell]) rfl (EffPost.mk (((((((Grow.refl w).alloc _).alloc _).trans hgt).setCell (by simp <;> omega) _).setCell (by simp <;> omega) _).setCell (by simp <;> omega) _) ⟨_, _, _, rfl, QN.out⟩)
set_option maxHeartbeats 2000000 in
theorem normal3_calls (x0 y0 z0 x1 y1 z1 x2 y2 z2 : Nat) (a0 b0 c0 a1 b1 c1 a2 b2 c2 : Int) (w : World) (hx0 : Fl.IsI x0 a0) (dx0 : Bd a0 262144) (hy0 : Fl.IsI y0 b0) (dy0 : Bd b0 262144) (hz0 : Fl.IsI z0 c0) (dz0 : Bd c0 262144) (hx1 : Fl.IsI x1 a1) (dx1 : Bd a1 262144) (hy1 : Fl.IsI y1 b1) (dy1 : Bd b1 262144) (hz1 : Fl.IsI z1 c1) (dz1 : Bd c1 262144) (hx2 : Fl.IsI x2 a2) (dx2 : Bd a2 262144) (hy2 : Fl.IsI y2 b2) (dy2 : Bd b2 262144) (hz2 : Fl.IsI z2 c2) (dz2 : Bd c2 262144) :
    Calls Try.prog 24 #[P3V x0 y0 z0, P3V x1 y1 z1, P3V x2 y2 z2] w (EffPost (fun _ _ => FP3 ((b1 - b0) * (c2 - c1) - (c1 - c0) * (b2 - b1)) ((c1 - c0) * (a2 - a1) - (a1 - a0) * (c2 - c1)) ((a1 - a0) * (b2 - b1) - (b1 - b0) * (a2 - a1))) w) := by
  have K := Lib.hid (fun w => rnormal_calls x0 y0 z0 x1 y1 z1 x2 y2 z2 a0 b0 c0 a1 b1 c1 a2 b2 c2 w hx0 dx0 hy0 dy0 hz0 dz0 hx1 dx1 hy1 dy1 hz1 dz1 hx2 dx2 hy2 dy2 hz2 dz2)
  clear hx0 dx0 hy0 dy0 hz0 dz0 hx1 dx1 hy1 dy1 hz1 dz1 hx2 dx2 hy2 dy2 hz2 dz2
  go_enter Try.func24, Try.ntmps24
  go_wp2
  refine wp_region_grow_tail 9 (fun i => if i = 1 then some (fun _ _ => (fun V _ => V = P3V x0 y0 z0)) else if i = 3 then some (fun _ _ => (fun V _ => V = P3V x1 y1 z1)) else if i = 5 then some (fun _ _ => (fun V _ => V = P3V x2 y2 z2)) else if i = 7 then some (fun _ _ => FP3 ((b1 - b0) * (c2 - c1) - (c1 - c0) * (b2 - b1)) ((c1 - c0) * (a2 - a1) - (a1 - a0) * (c2 - c1)) ((a1 - a0) * (b2 - b1) - (b1 - b0) * (a2 - a1))) else if i = 8 then some (fun _ _ => FP3 ((b1 - b0) * (c2 - c1) - (c1 - c0) * (b2 - b1)) ((c1 - c0) * (a2 - a1) - (a1 - a0) * (c2 - c1)) ((a1 - a0) * (b2 - b1) - (b1 - b0) * (a2 - a1))) else none) (by kernel_rfl) (by kernel_rfl) ?_ ?_
  · intro i Φ h lo hi v
    (repeat' split at h) <;> cases h
    · exact fun _ _ h _ => h
    · exact fun _ _ h _ => h
    · exact fun _ _ h _ => h
    · exact FP3.up
    · exact FP3.up
  simp only [List.take_succ_cons, List.take_zero, List.drop_succ_cons, List.drop_zero]
  repeat (first
    | (refine wpGrow_skip (by rfl) ?_; simp only [Act.put, List.setIfInBounds_toArray, List.set_cons_zero, List.set_cons_succ, Nat.reduceAdd])
    | (refine wpGrow_det' (by rfl) (by rfl) ?_; apply Exists.intro; refine ⟨fun w' hc hh => ?_, ?_⟩; (have hcell := grow_cell hc; clear hc hh; go_simp; rfl); simp only [Act.put, List.setIfInBounds_toArray, List.set_cons_zero, List.set_cons_succ, Nat.reduceAdd]))
  refine wpGrow_eff' (by rfl) (by rfl) (fun w' hc hh => ?_) (fun v lo hi w' hap hc hh hv => ?_)
  · clear hc hh
    go_simp
    go_at_call 39
    exact vec3_eff _ _ _ _
  obtain rfl := hv
  clear hc hh hap w'
  simp only [Act.put, List.setIfInBounds_toArray, List.set_cons_zero, List.set_cons_succ, Nat.reduceAdd]
  repeat (first
    | (refine wpGrow_skip (by rfl) ?_; simp only [Act.put, List.setIfInBounds_toArray, List.set_cons_zero, List.set_cons_succ, Nat.reduceAdd])
    | (refine wpGrow_det' (by rfl) (by rfl) ?_; apply Exists.intro; refine ⟨fun w' hc hh => ?_, ?_⟩; (have hcell := grow_cell hc; clear hc hh; go_simp; rfl); simp only [Act.put, List.setIfInBounds_toArray, List.set_cons_zero, List.set_cons_succ, Nat.reduceAdd]))
  refine wpGrow_eff' (by rfl) (by rfl) (fun w' hc hh => ?_) (fun v lo hi w' hap hc hh hv => ?_)
  · clear hc hh
    go_simp
    go_at_call 39
    exact vec3_eff _ _ _ _
  obtain rfl := hv
  clear hc hh hap w'
  simp only [Act.put, List.setIfInBounds_toArray, List.set_cons_zero, List.set_cons_succ, Nat.reduceAdd]
  repeat (first
    | (refine wpGrow_skip (by rfl) ?_; simp only [Act.put, List.setIfInBounds_toArray, List.set_cons_zero, List.set_cons_succ, Nat.reduceAdd])
    | (refine wpGrow_det' (by rfl) (by rfl) ?_; apply Exists.intro; refine ⟨fun w' hc hh => ?_, ?_⟩; (have hcell := grow_cell hc; clear hc hh; go_simp; rfl); simp only [Act.put, List.setIfInBounds_toArray, List.set_cons_zero, List.set_cons_succ, Nat.reduceAdd]))
  refine wpGrow_eff' (by rfl) (by rfl) (fun w' hc hh => ?_) (fun v lo hi w' hap hc hh hv => ?_)
  · clear hc hh
    go_simp
    go_at_call 39
    exact vec3_eff _ _ _ _
  obtain rfl := hv
  clear hc hh hap w'
  simp only [Act.put, List.setIfInBounds_toArray, List.set_cons_zero, List.set_cons_succ, Nat.reduceAdd]
  repeat (first
    | (refine wpGrow_skip (by rfl) ?_; simp only [Act.put, List.setIfInBounds_toArray, List.set_cons_zero, List.set_cons_succ, Nat.reduceAdd])
    | (refine wpGrow_det' (by rfl) (by rfl) ?_; apply Exists.intro; refine ⟨fun w' hc hh => ?_, ?_⟩; (have hcell := grow_cell hc; clear hc hh; go_simp; rfl); simp only [Act.put, List.setIfInBounds_toArray, List.set_cons_zero, List.set_cons_succ, Nat.reduceAdd]))
  refine wpGrow_eff' (by rfl) (by rfl) (fun w' hc hh => ?_) (fun v lo hi w' hap hc hh hv => ?_)
  · clear hc hh
    go_simp
    go_at_call 46
    exact K.out _
  obtain ⟨n0, n1, n2, rfl, q⟩ := hv
  have Q := Lib.hid q; clear q
  clear hc hh hap w'
  simp only [Act.put, List.setIfInBounds_toArray, List.set_cons_zero, List.set_cons_succ, Nat.reduceAdd]
  repeat (first
    | (refine wpGrow_skip (by rfl) ?_; simp only [Act.put, List.setIfInBounds_toArray, List.set_cons_zero, List.set_cons_succ, Nat.reduceAdd])
    | (refine wpGrow_det' (by rfl) (by rfl) ?_; apply Exists.intro; refine ⟨fun w' hc hh => ?_, ?_⟩; (have hcell := grow_cell hc; clear hc hh; go_simp; rfl); simp only [Act.put, List.setIfInBounds_toArray, List.set_cons_zero, List.set_cons_succ, Nat.reduceAdd]))
  refine wpGrow_eff' (by rfl) (by rfl) (fun w' hc hh => ?_) (fun v lo hi w' hap hc hh hv => ?_)
  · clear hc hh
    go_simp
    go_at_call 44
    refine (plainP3_eff _ _ _ _).mono ?_
    rintro e w2 ⟨V, rfl, hg, rfl⟩
    exact EffPost.mk hg ⟨_, _, _, rfl, Q.out⟩
  obtain ⟨m0, m1, m2, rfl, q⟩ := hv
  have QM := Lib.hid q; clear q
  clear hc hh hap w'
  simp only [Act.put, List.setIfInBounds_toArray, List.set_cons_zero, List.set_cons_succ, Nat.reduceAdd]
  repeat (first
    | (refine wpGrow_skip (by rfl) ?_; simp only [Act.put, List.setIfInBounds_toArray, List.set_cons_zero, List.set_cons_succ, Nat.reduceAdd])
    | (refine wpGrow_det' (by rfl) (by rfl) ?_; apply Exists.intro; refine ⟨fun w' hc hh => ?_, ?_⟩; (have hcell := grow_cell hc; clear hc hh; go_simp; rfl); simp only [Act.put, List.setIfInBounds_toArray, List.set_cons_zero, List.set_cons_succ, Nat.reduceAdd]))
  refine wpGrow_nil ?_
  intro w1 hg hh
  clear hh
  have hcell := grow_cell hg
  have hfr := grow_frozen hg
  go_wp2
  refine bodyPost_ret (v := P3V m0 m1 m2) (by simp [results, Try.results24, go_sem, hcell]) rfl (EffPost.mk (((((((((Grow.refl w).alloc _).alloc _).alloc _).alloc _).trans hg).setCell (by simp <;> omega) _).setCell (by simp <;> omega) _).setCell (by simp <;> omega) _) ⟨_, _, _, rfl, QM.out⟩)
theorem eq3_run {x y z u v t : Nat} {a b c : Int} (hx : Fl.IsI x a) (hy : Fl.IsI y b) (hz : Fl.IsI z c) (hu : Fl.IsI u a) (hv : Fl.IsI v b) (ht : Fl.IsI t c) (w : World) :
    (binOp .eql 30 (P3V x y z) (P3V u v t)).run Try.prog w = .ok (.bool true) w := by
  have h := run_eqS (P := Try.prog) (t := 30) (tf := 22) (z := .float .f64 0) (n := 8) (by kernel_rfl) (by kernel_rfl) (by kernel_rfl) (by kernel_rfl) (l := [("X", 0), ("Y", 1), ("Z", 2)]) (by kernel_rfl) (by decide) [x, y, z] [u, v, t] rfl rfl w
  have e0 : eqF x u = true := Fl.eqB hx hu
  have e1 : eqF y v = true := Fl.eqB hy hv
  have e2 : eqF z t = true := Fl.eqB hz ht
  simp only [List.zip_cons_cons, List.zip_nil_right, List.all_cons, List.all_nil, e0, e1, e2, Bool.and_true] at h
  rw [run_eql_struct]
  change ((Op.equalIn 10000 30 (.agg ([x, y, z].map (Value.float .f64)).toArray) (.agg ([u, v, t].map (Value.float .f64)).toArray)).run Try.prog w).andThen _ = _
  rw [h]; rfl
theorem isI_18 : Fl.IsI 4688247212092686336 262144 := by
  refine ⟨false, 4503599627370496, -34, by decide +kernel, ?_⟩
  simp only [Fl.dv, Bool.false_eq_true, if_false]
  rw [show (4503599627370496 : Nat) = 262144 * 2 ^ 34 from by decide, Rat.natCast_mul, ← Fl.p2_nat, Rat.mul_assoc, ← Fl.p2_add]
  rw [show ((34 : Nat) : Int) + -34 = 0 from by decide, Fl.p2_zero, Rat.mul_one]; rfl
theorem fsl_3 {w : World} {b : Nat} {x y z : Nat} (h0 : w.cell? ⟨b, 0, none⟩ = some (.float .f64 x)) (h1 : w.cell? ⟨b, 1, none⟩ = some (.float .f64 y)) (h2 : w.cell? ⟨b, 2, none⟩ = some (.float .f64 z)) : FSl (.slice (some ⟨b, 0, none⟩) 3 3) [x, y, z] w := by
  refine ⟨_, _, rfl, Nat.le_refl _, .inr ⟨b, 0, rfl, fun i q hi => ?_⟩⟩
  match i, hi with
  | 0, hi => cases hi; exact h0
  | 1, hi => cases hi; exact h1
  | 2, hi => cases hi; exact h2
  | i + 3, hi => simp at hi
theorem fssl_3 {w : World} {b : Nat} {X Y Z : List Nat} {A B C : Value} (h0 : w.cell? ⟨b, 0, none⟩ = some A) (h1 : w.cell? ⟨b, 1, none⟩ = some B) (h2 : w.cell? ⟨b, 2, none⟩ = some C) (hA : FSl A X w) (hB : FSl B Y w) (hC : FSl C Z w) : FSSl (.slice (some ⟨b, 0, none⟩) 3 3) [X, Y, Z] w := by
  refine ⟨_, _, rfl, Nat.le_refl _, .inr ⟨b, 0, rfl, fun i q hi => ?_⟩⟩
  match i, hi with
  | 0, hi => cases hi; exact ⟨A, h0, hA⟩
  | 1, hi => cases hi; exact ⟨B, h1, hB⟩
  | 2, hi => cases hi; exact ⟨C, h2, hC⟩
  | i + 3, hi => simp at hi
end Go.Proofs.Ytincapjbhbmeiaa
