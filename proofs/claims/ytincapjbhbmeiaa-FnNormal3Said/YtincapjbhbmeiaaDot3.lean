import Derived.Test.YtincapjbhbmeiaaP3
namespace Go.Proofs.Ytincapjbhbmeiaa
open Go.ChangeShapes Go.WideShapes Go.ChangeAt Go.RowKit Go.GrowR
set_option linter.unusedVariables false
set_option linter.unusedSimpArgs false
theorem vec3_calls (x y z : Nat) (w : World) : Calls Try.prog 39 #[P3V x y z] w fun e w' => e = .returned (P3V x y z) ∧ Grow w w' := by
  go_enter Try.func39, Try.ntmps39
  go_wp2
  exact bodyPost_ret (v := P3V x y z) (by simp [results, Try.results39, go_sem]) rfl ⟨rfl, ((Grow.refl w).alloc _).alloc _⟩
theorem plainP3_calls (x y z : Nat) (w : World) : Calls Try.prog 44 #[P3V x y z] w fun e w' => e = .returned (P3V x y z) ∧ Grow w w' := by
  go_enter Try.func44, Try.ntmps44
  go_wp2
  exact bodyPost_ret (v := P3V x y z) (by simp [results, Try.results44, go_sem]) rfl ⟨rfl, ((Grow.refl w).alloc _).alloc _⟩
theorem dot3_calls (x y z u v t : Nat) (a b c p q r : Int) (w : World) (hx : Fl.IsI x a) (hy : Fl.IsI y b) (hz : Fl.IsI z c) (hu : Fl.IsI u p) (hv : Fl.IsI v q) (ht : Fl.IsI t r) (m0 : (a * p).natAbs ≤ 2 ^ 53) (m1 : (b * q).natAbs ≤ 2 ^ 53) (m2 : (c * r).natAbs ≤ 2 ^ 53) (n0 : (a * p + b * q).natAbs ≤ 2 ^ 53) (n1 : (a * p + b * q + c * r).natAbs ≤ 2 ^ 53) : Calls Try.prog 38 #[P3V x y z, P3V u v t] w fun e w' => (∃ z, e = .returned (.float .f64 z) ∧ Fl.IsI z (a * p + b * q + c * r)) ∧ Grow w w' := by
  obtain ⟨z0, e0, i0⟩ := Fl.mul_I hx hu m0
  obtain ⟨z1, e1, i1⟩ := Fl.mul_I hy hv m1
  obtain ⟨z2, e2, i2⟩ := Fl.mul_I hz ht m2
  obtain ⟨s1, g1, j1⟩ := Fl.add_I i0 i1 n0
  obtain ⟨s2, g2, j2⟩ := Fl.add_I j1 i2 n1
  have f0 := fop (P := Try.prog) e0
  have f1 := fop (P := Try.prog) e1
  have f2 := fop (P := Try.prog) e2
  have l1 := fop (P := Try.prog) g1
  have l2 := fop (P := Try.prog) g2
  have I := Lib.hid j2
  clear hx hy hz hu hv ht m0 m1 m2 n0 n1 e0 e1 e2 i0 i1 i2 g1 g2 j1 j2
  go_enter Try.func38, Try.ntmps38
  go_wp2
  go_ret
  exact ⟨⟨s2, rfl, I.out⟩, ((Grow.refl w).alloc _).alloc _⟩
theorem norm3_calls (x y z : Nat) (a b c : Int) (w : World) (hx : Fl.IsI x a) (hy : Fl.IsI y b) (hz : Fl.IsI z c) (m0 : (a * a).natAbs ≤ 2 ^ 53) (m1 : (b * b).natAbs ≤ 2 ^ 53) (m2 : (c * c).natAbs ≤ 2 ^ 53) (n0 : (a * a + b * b).natAbs ≤ 2 ^ 53) (n1 : (a * a + b * b + c * c).natAbs ≤ 2 ^ 53) : Calls Try.prog 40 #[P3V x y z] w fun e w' => (∃ z, e = .returned (.float .f64 z) ∧ Fl.IsI z (a * a + b * b + c * c)) ∧ Grow w w' := by
  obtain ⟨z0, e0, i0⟩ := Fl.mul_I hx hx m0
  obtain ⟨z1, e1, i1⟩ := Fl.mul_I hy hy m1
  obtain ⟨z2, e2, i2⟩ := Fl.mul_I hz hz m2
  obtain ⟨s1, g1, j1⟩ := Fl.add_I i0 i1 n0
  obtain ⟨s2, g2, j2⟩ := Fl.add_I j1 i2 n1
  have f0 := fop (P := Try.prog) e0
  have f1 := fop (P := Try.prog) e1
  have f2 := fop (P := Try.prog) e2
  have l1 := fop (P := Try.prog) g1
  have l2 := fop (P := Try.prog) g2
  have I := Lib.hid j2
  clear hx hy hz m0 m1 m2 n0 n1 e0 e1 e2 i0 i1 i2 g1 g2 j1 j2
  go_enter Try.func40, Try.ntmps40
  go_wp2
  go_ret
  exact ⟨⟨s2, rfl, I.out⟩, (Grow.refl w).alloc _⟩
theorem dotOf3_calls (x y z u v t : Nat) (a b c p q r : Int) (w : World) (hx : Fl.IsI x a) (hy : Fl.IsI y b) (hz : Fl.IsI z c) (hu : Fl.IsI u p) (hv : Fl.IsI v q) (ht : Fl.IsI t r) (m0 : (a * p).natAbs ≤ 2 ^ 53) (m1 : (b * q).natAbs ≤ 2 ^ 53) (m2 : (c * r).natAbs ≤ 2 ^ 53) (n0 : (a * p + b * q).natAbs ≤ 2 ^ 53) (n1 : (a * p + b * q + c * r).natAbs ≤ 2 ^ 53) : Calls Try.prog 16 #[P3V x y z, P3V u v t] w fun e w' => (∃ z, e = .returned (.float .f64 z) ∧ Fl.IsI z (a * p + b * q + c * r)) ∧ Grow w w' := by
  have K := Lib.hid (fun w => dot3_calls x y z u v t a b c p q r w hx hy hz hu hv ht m0 m1 m2 n0 n1)
  clear hx hy hz hu hv ht m0 m1 m2 n0 n1
  go_enter Try.func16, Try.ntmps16
  go_wp2
  refine wp_region_grow (fun i => if i = 1 then some (fun _ _ => (fun V _ => V = P3V x y z)) else if i = 3 then some (fun _ _ => (fun V _ => V = P3V u v t)) else if i = 4 then some (fun _ _ => (FI (a * p + b * q + c * r))) else none) (by kernel_rfl) (by kernel_rfl) ?_ ?_
  · intro i Φ h lo hi v
    (repeat' split at h) <;> cases h
    · exact fun _ _ h _ => h
    · exact fun _ _ h _ => h
    · exact FI.up
  repeat (first
    | (refine wpGrow_skip (by rfl) ?_; simp only [Act.put, List.setIfInBounds_toArray, List.set_cons_zero, List.set_cons_succ, Nat.reduceAdd])
    | (refine wpGrow_det' (by rfl) (by rfl) ?_; apply Exists.intro; refine ⟨fun w' hc hh => ?_, ?_⟩; (have hcell := grow_cell hc; clear hc hh; go_simp; rfl); simp only [Act.put, List.setIfInBounds_toArray, List.set_cons_zero, List.set_cons_succ, Nat.reduceAdd]))
  refine wpGrow_eff' (by rfl) (by rfl) (fun w' hc hh => ?_) (fun v lo hi w' hap hc hh hv => ?_)
  · clear hc hh
    go_simp
    go_at_call 39
    refine (vec3_calls _ _ _ _).mono ?_
    rintro e w2 ⟨rfl, hg⟩
    exact EffPost.mk hg rfl
  obtain rfl := hv
  clear hc hh hap w'
  simp only [Act.put, List.setIfInBounds_toArray, List.set_cons_zero, List.set_cons_succ, Nat.reduceAdd]
  repeat (first
    | (refine wpGrow_skip (by rfl) ?_; simp only [Act.put, List.setIfInBounds_toArray, List.set_cons_zero, List.set_cons_succ, Nat.reduceAdd])
    | (refine wpGrow_det' (by rfl) (by rfl) ?_; apply Exists.intro; refine ⟨fun w' hc hh => ?_, ?_⟩; (have hcell := grow_cell hc; clear hc hh; go_simp; rfl); simp only [Act.put, List.setIfInBounds_toArray, List.set_cons_zero, List.set_cons_succ, Nat.reduceAdd]))
  refine wpGrow_eff' (by rfl) (by rfl) (fun w' hc hh => ?_) (fun v lo hi w' hap hc hh hv => ?_)
  · clear hc hh
    go_simp
    go_at_call 39
    refine (vec3_calls _ _ _ _).mono ?_
    rintro e w2 ⟨rfl, hg⟩
    exact EffPost.mk hg rfl
  obtain rfl := hv
  clear hc hh hap w'
  simp only [Act.put, List.setIfInBounds_toArray, List.set_cons_zero, List.set_cons_succ, Nat.reduceAdd]
  repeat (first
    | (refine wpGrow_skip (by rfl) ?_; simp only [Act.put, List.setIfInBounds_toArray, List.set_cons_zero, List.set_cons_succ, Nat.reduceAdd])
    | (refine wpGrow_det' (by rfl) (by rfl) ?_; apply Exists.intro; refine ⟨fun w' hc hh => ?_, ?_⟩; (have hcell := grow_cell hc; clear hc hh; go_simp; rfl); simp only [Act.put, List.setIfInBounds_toArray, List.set_cons_zero, List.set_cons_succ, Nat.reduceAdd]))
  refine wpGrow_eff' (by rfl) (by rfl) (fun w' hc hh => ?_) (fun v lo hi w' hap hc hh hv => ?_)
  · clear hc hh
    go_simp
    go_at_call 38
    refine (K.out _).mono ?_
    rintro e w2 ⟨⟨z, rfl, hz⟩, hg⟩
    exact EffPost.mk hg ⟨z, rfl, hz⟩
  obtain ⟨z, rfl, hz⟩ := hv
  have HZ := Lib.hid hz; clear hz
  clear hc hh hap w'
  simp only [Act.put, List.setIfInBounds_toArray, List.set_cons_zero, List.set_cons_succ, Nat.reduceAdd]
  repeat (first
    | (refine wpGrow_skip (by rfl) ?_; simp only [Act.put, List.setIfInBounds_toArray, List.set_cons_zero, List.set_cons_succ, Nat.reduceAdd])
    | (refine wpGrow_det' (by rfl) (by rfl) ?_; apply Exists.intro; refine ⟨fun w' hc hh => ?_, ?_⟩; (have hcell := grow_cell hc; clear hc hh; go_simp; rfl); simp only [Act.put, List.setIfInBounds_toArray, List.set_cons_zero, List.set_cons_succ, Nat.reduceAdd]))
  refine wpGrow_nil ?_
  intro w1 hg hh
  go_wp2
  go_ret
  exact ⟨⟨z, rfl, HZ.out⟩, (((Grow.refl w).alloc _).alloc _).trans hg⟩
theorem square3_calls (x y z : Nat) (a b c : Int) (w : World) (hx : Fl.IsI x a) (hy : Fl.IsI y b) (hz : Fl.IsI z c) (m0 : (a * a).natAbs ≤ 2 ^ 53) (m1 : (b * b).natAbs ≤ 2 ^ 53) (m2 : (c * c).natAbs ≤ 2 ^ 53) (n0 : (a * a + b * b).natAbs ≤ 2 ^ 53) (n1 : (a * a + b * b + c * c).natAbs ≤ 2 ^ 53) : Calls Try.prog 17 #[P3V x y z] w fun e w' => (∃ z, e = .returned (.float .f64 z) ∧ Fl.IsI z (a * a + b * b + c * c)) ∧ Grow w w' := by
  have K := Lib.hid (fun w => norm3_calls x y z a b c w hx hy hz m0 m1 m2 n0 n1)
  clear hx hy hz m0 m1 m2 n0 n1
  go_enter Try.func17, Try.ntmps17
  go_wp2_with (go_at_call 39; refine (vec3_calls _ _ _ _).mono ?_; rintro e w1 ⟨rfl, hg1⟩)
  refine (K.out _).mono ?_; rintro e w2 ⟨⟨z, rfl, hz⟩, hg2⟩
  have HZ := Lib.hid hz; clear hz
  go_wp2
  go_ret
  exact ⟨⟨z, rfl, HZ.out⟩, (((Grow.refl w).alloc _).trans hg1).trans hg2⟩
end Go.Proofs.Ytincapjbhbmeiaa
