import Derived.Test.YtincapjbhbmeiaaP2
namespace Go.Proofs.Ytincapjbhbmeiaa
open Go.ChangeShapes Go.WideShapes Go.ChangeAt Go.RowKit Go.GrowR
set_option linter.unusedVariables false
set_option linter.unusedSimpArgs false
theorem vec2_calls (x y : Nat) (w : World) : Calls Try.prog 36 #[P2V x y] w fun e w' => e = .returned (P2V x y) ∧ Grow w w' := by
  go_enter Try.func36, Try.ntmps36
  go_wp2
  exact bodyPost_ret (v := P2V x y) (by simp [results, Try.results36, go_sem]) rfl ⟨rfl, ((Grow.refl w).alloc _).alloc _⟩
theorem plainP2_calls (x y : Nat) (w : World) : Calls Try.prog 42 #[P2V x y] w fun e w' => e = .returned (P2V x y) ∧ Grow w w' := by
  go_enter Try.func42, Try.ntmps42
  go_wp2
  exact bodyPost_ret (v := P2V x y) (by simp [results, Try.results42, go_sem]) rfl ⟨rfl, ((Grow.refl w).alloc _).alloc _⟩
theorem dot2_calls (x y u v : Nat) (a b p q : Int) (w : World) (hx : Fl.IsI x a) (hy : Fl.IsI y b) (hu : Fl.IsI u p) (hv : Fl.IsI v q) (m0 : (a * p).natAbs ≤ 2 ^ 53) (m1 : (b * q).natAbs ≤ 2 ^ 53) (n0 : (a * p + b * q).natAbs ≤ 2 ^ 53) : Calls Try.prog 35 #[P2V x y, P2V u v] w fun e w' => (∃ z, e = .returned (.float .f64 z) ∧ Fl.IsI z (a * p + b * q)) ∧ Grow w w' := by
  obtain ⟨z0, e0, i0⟩ := Fl.mul_I hx hu m0
  obtain ⟨z1, e1, i1⟩ := Fl.mul_I hy hv m1
  obtain ⟨s1, g1, j1⟩ := Fl.add_I i0 i1 n0
  have f0 := fop (P := Try.prog) e0
  have f1 := fop (P := Try.prog) e1
  have l1 := fop (P := Try.prog) g1
  have I := Lib.hid j1
  clear hx hy hu hv m0 m1 n0 e0 e1 i0 i1 g1 j1
  go_enter Try.func35, Try.ntmps35
  go_wp2
  go_ret
  exact ⟨⟨s1, rfl, I.out⟩, ((Grow.refl w).alloc _).alloc _⟩
theorem norm2_calls (x y : Nat) (a b : Int) (w : World) (hx : Fl.IsI x a) (hy : Fl.IsI y b) (m0 : (a * a).natAbs ≤ 2 ^ 53) (m1 : (b * b).natAbs ≤ 2 ^ 53) (n0 : (a * a + b * b).natAbs ≤ 2 ^ 53) : Calls Try.prog 37 #[P2V x y] w fun e w' => (∃ z, e = .returned (.float .f64 z) ∧ Fl.IsI z (a * a + b * b)) ∧ Grow w w' := by
  obtain ⟨z0, e0, i0⟩ := Fl.mul_I hx hx m0
  obtain ⟨z1, e1, i1⟩ := Fl.mul_I hy hy m1
  obtain ⟨s1, g1, j1⟩ := Fl.add_I i0 i1 n0
  have f0 := fop (P := Try.prog) e0
  have f1 := fop (P := Try.prog) e1
  have l1 := fop (P := Try.prog) g1
  have I := Lib.hid j1
  clear hx hy m0 m1 n0 e0 e1 i0 i1 g1 j1
  go_enter Try.func37, Try.ntmps37
  go_wp2
  go_ret
  exact ⟨⟨s1, rfl, I.out⟩, (Grow.refl w).alloc _⟩
theorem dotOf2_calls (x y u v : Nat) (a b p q : Int) (w : World) (hx : Fl.IsI x a) (hy : Fl.IsI y b) (hu : Fl.IsI u p) (hv : Fl.IsI v q) (m0 : (a * p).natAbs ≤ 2 ^ 53) (m1 : (b * q).natAbs ≤ 2 ^ 53) (n0 : (a * p + b * q).natAbs ≤ 2 ^ 53) : Calls Try.prog 13 #[P2V x y, P2V u v] w fun e w' => (∃ z, e = .returned (.float .f64 z) ∧ Fl.IsI z (a * p + b * q)) ∧ Grow w w' := by
  have K := Lib.hid (fun w => dot2_calls x y u v a b p q w hx hy hu hv m0 m1 n0)
  clear hx hy hu hv m0 m1 n0
  go_enter Try.func13, Try.ntmps13
  go_wp2
  refine wp_region_grow (fun i => if i = 1 then some (fun _ _ => (fun V _ => V = P2V x y)) else if i = 3 then some (fun _ _ => (fun V _ => V = P2V u v)) else if i = 4 then some (fun _ _ => (FI (a * p + b * q))) else none) (by kernel_rfl) (by kernel_rfl) ?_ ?_
  · intro i Φ h lo hi v
    (repeat' split at h) <;> cases h
    · exact fun _ _ h _ => h
    · exact fun _ _ h _ => h
    · exact FI.up
  repeat (first
    | (refine wpGrow_skip (by rfl) ?_; simp only [Act.put, List.setIfInBounds_toArray, List.set_cons_zero, List.set_cons_succ, Nat.reduceAdd])
    | (refine wpGrow_det' (by rfl) (by rfl) ?_; apply Exists.intro; refine ⟨fun w' hc hh => ?_, ?_⟩; (have hcell := grow_cell hc; clear hc hh; go_simp; rfl); simp only [Act.put, List.setIfInBounds_toArray, List.set_cons_zero, List.set_cons_succ, Nat.reduceAdd]))
  refine wpGrow_eff' (by rfl) (by rfl) (fun w' hc hh => ?_) (fun v lo hi w' hap hc hh hv => ?_)
  · clear hc hh
    go_simp
    go_at_call 36
    refine (vec2_calls _ _ _).mono ?_
    rintro e w2 ⟨rfl, hg⟩
    exact EffPost.mk hg rfl
  obtain rfl := hv
  clear hc hh hap w'
  simp only [Act.put, List.setIfInBounds_toArray, List.set_cons_zero, List.set_cons_succ, Nat.reduceAdd]
  repeat (first
    | (refine wpGrow_skip (by rfl) ?_; simp only [Act.put, List.setIfInBounds_toArray, List.set_cons_zero, List.set_cons_succ, Nat.reduceAdd])
    | (refine wpGrow_det' (by rfl) (by rfl) ?_; apply Exists.intro; refine ⟨fun w' hc hh => ?_, ?_⟩; (have hcell := grow_cell hc; clear hc hh; go_simp; rfl); simp only [Act.put, List.setIfInBounds_toArray, List.set_cons_zero, List.set_cons_succ, Nat.reduceAdd]))
  refine wpGrow_eff' (by rfl) (by rfl) (fun w' hc hh => ?_) (fun v lo hi w' hap hc hh hv => ?_)
  · clear hc hh
    go_simp
    go_at_call 36
    refine (vec2_calls _ _ _).mono ?_
    rintro e w2 ⟨rfl, hg⟩
    exact EffPost.mk hg rfl
  obtain rfl := hv
  clear hc hh hap w'
  simp only [Act.put, List.setIfInBounds_toArray, List.set_cons_zero, List.set_cons_succ, Nat.reduceAdd]
  repeat (first
    | (refine wpGrow_skip (by rfl) ?_; simp only [Act.put, List.setIfInBounds_toArray, List.set_cons_zero, List.set_cons_succ, Nat.reduceAdd])
    | (refine wpGrow_det' (by rfl) (by rfl) ?_; apply Exists.intro; refine ⟨fun w' hc hh => ?_, ?_⟩; (have hcell := grow_cell hc; clear hc hh; go_simp; rfl); simp only [Act.put, List.setIfInBounds_toArray, List.set_cons_zero, List.set_cons_succ, Nat.reduceAdd]))
  refine wpGrow_eff' (by rfl) (by rfl) (fun w' hc hh => ?_) (fun v lo hi w' hap hc hh hv => ?_)
  · clear hc hh
    go_simp
    go_at_call 35
    refine (K.out _).mono ?_
    rintro e w2 ⟨⟨z, rfl, hz⟩, hg⟩
    exact EffPost.mk hg ⟨z, rfl, hz⟩
  obtain ⟨z, rfl, hz⟩ := hv
  have HZ := Lib.hid hz; clear hz
  clear hc hh hap w'
  simp only [Act.put, List.setIfInBounds_toArray, List.set_cons_zero, List.set_cons_succ, Nat.reduceAdd]
  repeat (first
    | (refine wpGrow_skip (by rfl) ?_; simp only [Act.put, List.setIfInBounds_toArray, List.set_cons_zero, List.set_cons_succ, Nat.reduceAdd])
    | (refine wpGrow_det' (by rfl) (by rfl) ?_; apply Exists.intro; refine ⟨fun w' hc hh => ?_, ?_⟩; (have hcell := grow_cell hc; clear hc hh; go_simp; rfl); simp only [Act.put, List.setIfInBounds_toArray, List.set_cons_zero, List.set_cons_succ, Nat.reduceAdd]))
  refine wpGrow_nil ?_
  intro w1 hg hh
  go_wp2
  go_ret
  exact ⟨⟨z, rfl, HZ.out⟩, (((Grow.refl w).alloc _).alloc _).trans hg⟩
theorem square2_calls (x y : Nat) (a b : Int) (w : World) (hx : Fl.IsI x a) (hy : Fl.IsI y b) (m0 : (a * a).natAbs ≤ 2 ^ 53) (m1 : (b * b).natAbs ≤ 2 ^ 53) (n0 : (a * a + b * b).natAbs ≤ 2 ^ 53) : Calls Try.prog 14 #[P2V x y] w fun e w' => (∃ z, e = .returned (.float .f64 z) ∧ Fl.IsI z (a * a + b * b)) ∧ Grow w w' := by
  have K := Lib.hid (fun w => norm2_calls x y a b w hx hy m0 m1 n0)
  clear hx hy m0 m1 n0
  go_enter Try.func14, Try.ntmps14
  go_wp2_with (go_at_call 36; refine (vec2_calls _ _ _).mono ?_; rintro e w1 ⟨rfl, hg1⟩)
  refine (K.out _).mono ?_; rintro e w2 ⟨⟨z, rfl, hz⟩, hg2⟩
  have HZ := Lib.hid hz; clear hz
  go_wp2
  go_ret
  exact ⟨⟨z, rfl, HZ.out⟩, (((Grow.refl w).alloc _).trans hg1).trans hg2⟩
end Go.Proofs.Ytincapjbhbmeiaa
