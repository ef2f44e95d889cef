import Derived.Test.YtincapjbhbmeiaaDot3
import Derived.Test.YtincapjbhbmeiaaFlF
namespace Go.Proofs.Ytincapjbhbmeiaa
open Go.ChangeShapes Go.WideShapes Go.ChangeAt Go.RowKit Go.GrowR
set_option linter.unusedVariables false
set_option linter.unusedSimpArgs false
theorem sub3_calls (x y z u v t z0 z1 z2 : Nat) (w : World) (h0 : floatBits .sub .f64 x u = some z0) (h1 : floatBits .sub .f64 y v = some z1) (h2 : floatBits .sub .f64 z t = some z2) : Calls Try.prog 64 #[P3V x y z, P3V u v t] w fun e w' => e = .returned (P3V z0 z1 z2) ∧ Grow w w' := by
  have f0 := fop (P := Try.prog) h0
  have f1 := fop (P := Try.prog) h1
  have f2 := fop (P := Try.prog) h2
  clear h0 h1 h2
  go_enter Try.func64, Try.ntmps64
  go_wp2
  exact bodyPost_ret (v := P3V z0 z1 z2) (by simp [results, Try.results64, go_sem]) rfl ⟨rfl, (((Grow.refl w).alloc _).alloc _).alloc _⟩
theorem add3_calls (x y z u v t z0 z1 z2 : Nat) (w : World) (h0 : floatBits .add .f64 x u = some z0) (h1 : floatBits .add .f64 y v = some z1) (h2 : floatBits .add .f64 z t = some z2) : Calls Try.prog 66 #[P3V x y z, P3V u v t] w fun e w' => e = .returned (P3V z0 z1 z2) ∧ Grow w w' := by
  have f0 := fop (P := Try.prog) h0
  have f1 := fop (P := Try.prog) h1
  have f2 := fop (P := Try.prog) h2
  clear h0 h1 h2
  go_enter Try.func66, Try.ntmps66
  go_wp2
  exact bodyPost_ret (v := P3V z0 z1 z2) (by simp [results, Try.results66, go_sem]) rfl ⟨rfl, (((Grow.refl w).alloc _).alloc _).alloc _⟩
theorem scale3_calls (c x y z z0 z1 z2 : Nat) (w : World) (h0 : floatBits .mul .f64 c x = some z0) (h1 : floatBits .mul .f64 c y = some z1) (h2 : floatBits .mul .f64 c z = some z2) : Calls Try.prog 65 #[.float .f64 c, P3V x y z] w fun e w' => e = .returned (P3V z0 z1 z2) ∧ Grow w w' := by
  have f0 := fop (P := Try.prog) h0
  have f1 := fop (P := Try.prog) h1
  have f2 := fop (P := Try.prog) h2
  clear h0 h1 h2
  go_enter Try.func65, Try.ntmps65
  go_wp2
  exact bodyPost_ret (v := P3V z0 z1 z2) (by simp [results, Try.results65, go_sem]) rfl ⟨rfl, ((Grow.refl w).alloc _).alloc _⟩
abbrev B3V (x y z u v t : Nat) : Value := .agg #[.float .f64 x, .float .f64 y, .float .f64 z, .float .f64 u, .float .f64 v, .float .f64 t]
theorem rsize3_calls (x y z u v t z0 z1 z2 : Nat) (w : World) (h0 : floatBits .sub .f64 u x = some z0) (h1 : floatBits .sub .f64 v y = some z1) (h2 : floatBits .sub .f64 t z = some z2) : Calls Try.prog 50 #[B3V x y z u v t] w fun e w' => e = .returned (P3V z0 z1 z2) ∧ Grow w w' := by
  have K := Lib.hid (fun w => sub3_calls u v t x y z z0 z1 z2 w h0 h1 h2)
  clear h0 h1 h2
  go_enter Try.func50, Try.ntmps50
  go_wp2_with fail
  refine (K.out _).mono ?_; rintro e w1 ⟨rfl, hg⟩
  have hcell := grow_cell hg
  have hfr := grow_frozen hg
  go_wp2
  exact bodyPost_ret (v := P3V z0 z1 z2) (by simp [results, Try.results50, go_sem, hcell]) rfl ⟨rfl, ((((((Grow.refl w).alloc _).alloc _).trans hg).setCell (by simp) _).setCell (by simp) _).setCell (by simp) _⟩
theorem size3_calls (x y z u v t z0 z1 z2 : Nat) (w : World) (h0 : floatBits .sub .f64 u x = some z0) (h1 : floatBits .sub .f64 v y = some z1) (h2 : floatBits .sub .f64 t z = some z2) : Calls Try.prog 28 #[B3V x y z u v t] w fun e w' => e = .returned (P3V z0 z1 z2) ∧ Grow w w' := by
  have K := Lib.hid (fun w => rsize3_calls x y z u v t z0 z1 z2 w h0 h1 h2)
  clear h0 h1 h2
  go_enter Try.func28, Try.ntmps28
  go_wp2
  refine wp_region_grow_tail 9 (fun i => if i = 2 then some (fun _ _ => (fun V _ => V = P3V x y z)) else if i = 5 then some (fun _ _ => (fun V _ => V = P3V u v t)) else if i = 7 then some (fun _ _ => (fun V _ => V = P3V z0 z1 z2)) else if i = 8 then some (fun _ _ => (fun V _ => V = P3V z0 z1 z2)) else none) (by kernel_rfl) (by kernel_rfl) ?_ ?_
  · intro i Φ h lo hi v
    (repeat' split at h) <;> cases h
    · exact fun _ _ h _ => h
    · exact fun _ _ h _ => h
    · exact fun _ _ h _ => h
    · exact fun _ _ h _ => h
  simp only [List.take_succ_cons, List.take_zero, List.drop_succ_cons, List.drop_zero]
  repeat (first
    | (refine wpGrow_skip (by rfl) ?_; simp only [Act.put, List.setIfInBounds_toArray, List.set_cons_zero, List.set_cons_succ, Nat.reduceAdd])
    | (refine wpGrow_det' (by rfl) (by rfl) ?_; apply Exists.intro; refine ⟨fun w' hc hh => ?_, ?_⟩; (have hcell := grow_cell hc; clear hc hh; go_simp; rfl); simp only [Act.put, List.setIfInBounds_toArray, List.set_cons_zero, List.set_cons_succ, Nat.reduceAdd]))
  refine wpGrow_eff' (by rfl) (by rfl) (fun w' hc hh => ?_) (fun v lo hi w' hap hc hh hv => ?_)
  · clear hc hh
    go_simp
    go_at_call 39
    refine (vec3_calls _ _ _ _).mono ?_
    rintro e w2 ⟨rfl, hg⟩
    exact EffPost.mk hg rfl
  obtain rfl := hv
  clear hc hh hap w'
  simp only [Act.put, List.setIfInBounds_toArray, List.set_cons_zero, List.set_cons_succ, Nat.reduceAdd]
  repeat (first
    | (refine wpGrow_skip (by rfl) ?_; simp only [Act.put, List.setIfInBounds_toArray, List.set_cons_zero, List.set_cons_succ, Nat.reduceAdd])
    | (refine wpGrow_det' (by rfl) (by rfl) ?_; apply Exists.intro; refine ⟨fun w' hc hh => ?_, ?_⟩; (have hcell := grow_cell hc; clear hc hh; go_simp; rfl); simp only [Act.put, List.setIfInBounds_toArray, List.set_cons_zero, List.set_cons_succ, Nat.reduceAdd]))
  refine wpGrow_eff' (by rfl) (by rfl) (fun w' hc hh => ?_) (fun v lo hi w' hap hc hh hv => ?_)
  · clear hc hh
    go_simp
    go_at_call 39
    refine (vec3_calls _ _ _ _).mono ?_
    rintro e w2 ⟨rfl, hg⟩
    exact EffPost.mk hg rfl
  obtain rfl := hv
  clear hc hh hap w'
  simp only [Act.put, List.setIfInBounds_toArray, List.set_cons_zero, List.set_cons_succ, Nat.reduceAdd]
  repeat (first
    | (refine wpGrow_skip (by rfl) ?_; simp only [Act.put, List.setIfInBounds_toArray, List.set_cons_zero, List.set_cons_succ, Nat.reduceAdd])
    | (refine wpGrow_det' (by rfl) (by rfl) ?_; apply Exists.intro; refine ⟨fun w' hc hh => ?_, ?_⟩; (have hcell := grow_cell hc; clear hc hh; go_simp; rfl); simp only [Act.put, List.setIfInBounds_toArray, List.set_cons_zero, List.set_cons_succ, Nat.reduceAdd]))
  refine wpGrow_eff' (by rfl) (by rfl) (fun w' hc hh => ?_) (fun v lo hi w' hap hc hh hv => ?_)
  · clear hc hh
    go_simp
    go_at_call 50
    refine (K.out _).mono ?_
    rintro e w2 ⟨rfl, hg⟩
    exact EffPost.mk hg rfl
  obtain rfl := hv
  clear hc hh hap w'
  simp only [Act.put, List.setIfInBounds_toArray, List.set_cons_zero, List.set_cons_succ, Nat.reduceAdd]
  repeat (first
    | (refine wpGrow_skip (by rfl) ?_; simp only [Act.put, List.setIfInBounds_toArray, List.set_cons_zero, List.set_cons_succ, Nat.reduceAdd])
    | (refine wpGrow_det' (by rfl) (by rfl) ?_; apply Exists.intro; refine ⟨fun w' hc hh => ?_, ?_⟩; (have hcell := grow_cell hc; clear hc hh; go_simp; rfl); simp only [Act.put, List.setIfInBounds_toArray, List.set_cons_zero, List.set_cons_succ, Nat.reduceAdd]))
  refine wpGrow_eff' (by rfl) (by rfl) (fun w' hc hh => ?_) (fun v lo hi w' hap hc hh hv => ?_)
  · clear hc hh
    go_simp
    go_at_call 44
    refine (plainP3_calls _ _ _ _).mono ?_
    rintro e w2 ⟨rfl, hg⟩
    exact EffPost.mk hg rfl
  obtain rfl := hv
  clear hc hh hap w'
  simp only [Act.put, List.setIfInBounds_toArray, List.set_cons_zero, List.set_cons_succ, Nat.reduceAdd]
  repeat (first
    | (refine wpGrow_skip (by rfl) ?_; simp only [Act.put, List.setIfInBounds_toArray, List.set_cons_zero, List.set_cons_succ, Nat.reduceAdd])
    | (refine wpGrow_det' (by rfl) (by rfl) ?_; apply Exists.intro; refine ⟨fun w' hc hh => ?_, ?_⟩; (have hcell := grow_cell hc; clear hc hh; go_simp; rfl); simp only [Act.put, List.setIfInBounds_toArray, List.set_cons_zero, List.set_cons_succ, Nat.reduceAdd]))
  refine wpGrow_nil ?_
  intro w1 hg hh
  clear hh
  have hcell := grow_cell hg
  have hfr := grow_frozen hg
  go_wp2
  exact bodyPost_ret (v := P3V z0 z1 z2) (by simp [results, Try.results28, go_sem, hcell]) rfl ⟨rfl, ((((((Grow.refl w).alloc _).alloc _).trans hg).setCell (by simp) _).setCell (by simp) _).setCell (by simp) _⟩
theorem rcenter3_calls (x y z u v t s0 s1 s2 z0 z1 z2 : Nat) (w : World) (g0 : floatBits .add .f64 x u = some s0) (h0 : floatBits .mul .f64 4602678819172646912 s0 = some z0) (g1 : floatBits .add .f64 y v = some s1) (h1 : floatBits .mul .f64 4602678819172646912 s1 = some z1) (g2 : floatBits .add .f64 z t = some s2) (h2 : floatBits .mul .f64 4602678819172646912 s2 = some z2) : Calls Try.prog 51 #[B3V x y z u v t] w fun e w' => e = .returned (P3V z0 z1 z2) ∧ Grow w w' := by
  have K1 := Lib.hid (fun w => add3_calls x y z u v t s0 s1 s2 w g0 g1 g2)
  have K2 := Lib.hid (fun w => scale3_calls 4602678819172646912 s0 s1 s2 z0 z1 z2 w h0 h1 h2)
  clear g0 g1 g2 h0 h1 h2
  go_enter Try.func51, Try.ntmps51
  go_wp2_with fail
  refine (K1.out _).mono ?_; rintro e w1 ⟨rfl, hg1⟩
  go_wp2_with fail
  refine (K2.out _).mono ?_; rintro e w2 ⟨rfl, hg2⟩
  have hg := hg1.trans hg2
  have hcell := grow_cell hg
  have hfr := grow_frozen hg
  clear hg1 hg2
  go_wp2
  exact bodyPost_ret (v := P3V z0 z1 z2) (by simp [results, Try.results51, go_sem, hcell]) rfl ⟨rfl, ((((((Grow.refl w).alloc _).alloc _).trans hg).setCell (by simp) _).setCell (by simp) _).setCell (by simp) _⟩
theorem center3_calls (x y z u v t s0 s1 s2 z0 z1 z2 : Nat) (w : World) (g0 : floatBits .add .f64 x u = some s0) (h0 : floatBits .mul .f64 4602678819172646912 s0 = some z0) (g1 : floatBits .add .f64 y v = some s1) (h1 : floatBits .mul .f64 4602678819172646912 s1 = some z1) (g2 : floatBits .add .f64 z t = some s2) (h2 : floatBits .mul .f64 4602678819172646912 s2 = some z2) : Calls Try.prog 29 #[B3V x y z u v t] w fun e w' => e = .returned (P3V z0 z1 z2) ∧ Grow w w' := by
  have K := Lib.hid (fun w => rcenter3_calls x y z u v t s0 s1 s2 z0 z1 z2 w g0 h0 g1 h1 g2 h2)
  clear g0 g1 g2 h0 h1 h2
  go_enter Try.func29, Try.ntmps29
  go_wp2
  refine wp_region_grow_tail 9 (fun i => if i = 2 then some (fun _ _ => (fun V _ => V = P3V x y z)) else if i = 5 then some (fun _ _ => (fun V _ => V = P3V u v t)) else if i = 7 then some (fun _ _ => (fun V _ => V = P3V z0 z1 z2)) else if i = 8 then some (fun _ _ => (fun V _ => V = P3V z0 z1 z2)) else none) (by kernel_rfl) (by kernel_rfl) ?_ ?_
  · intro i Φ h lo hi v
    (repeat' split at h) <;> cases h
    · exact fun _ _ h _ => h
    · exact fun _ _ h _ => h
    · exact fun _ _ h _ => h
    · exact fun _ _ h _ => h
  simp only [List.take_succ_cons, List.take_zero, List.drop_succ_cons, List.drop_zero]
  repeat (first
    | (refine wpGrow_skip (by rfl) ?_; simp only [Act.put, List.setIfInBounds_toArray, List.set_cons_zero, List.set_cons_succ, Nat.reduceAdd])
    | (refine wpGrow_det' (by rfl) (by rfl) ?_; apply Exists.intro; refine ⟨fun w' hc hh => ?_, ?_⟩; (have hcell := grow_cell hc; clear hc hh; go_simp; rfl); simp only [Act.put, List.setIfInBounds_toArray, List.set_cons_zero, List.set_cons_succ, Nat.reduceAdd]))
  refine wpGrow_eff' (by rfl) (by rfl) (fun w' hc hh => ?_) (fun v lo hi w' hap hc hh hv => ?_)
  · clear hc hh
    go_simp
    go_at_call 39
    refine (vec3_calls _ _ _ _).mono ?_
    rintro e w2 ⟨rfl, hg⟩
    exact EffPost.mk hg rfl
  obtain rfl := hv
  clear hc hh hap w'
  simp only [Act.put, List.setIfInBounds_toArray, List.set_cons_zero, List.set_cons_succ, Nat.reduceAdd]
  repeat (first
    | (refine wpGrow_skip (by rfl) ?_; simp only [Act.put, List.setIfInBounds_toArray, List.set_cons_zero, List.set_cons_succ, Nat.reduceAdd])
    | (refine wpGrow_det' (by rfl) (by rfl) ?_; apply Exists.intro; refine ⟨fun w' hc hh => ?_, ?_⟩; (have hcell := grow_cell hc; clear hc hh; go_simp; rfl); simp only [Act.put, List.setIfInBounds_toArray, List.set_cons_zero, List.set_cons_succ, Nat.reduceAdd]))
  refine wpGrow_eff' (by rfl) (by rfl) (fun w' hc hh => ?_) (fun v lo hi w' hap hc hh hv => ?_)
  · clear hc hh
    go_simp
    go_at_call 39
    refine (vec3_calls _ _ _ _).mono ?_
    rintro e w2 ⟨rfl, hg⟩
    exact EffPost.mk hg rfl
  obtain rfl := hv
  clear hc hh hap w'
  simp only [Act.put, List.setIfInBounds_toArray, List.set_cons_zero, List.set_cons_succ, Nat.reduceAdd]
  repeat (first
    | (refine wpGrow_skip (by rfl) ?_; simp only [Act.put, List.setIfInBounds_toArray, List.set_cons_zero, List.set_cons_succ, Nat.reduceAdd])
    | (refine wpGrow_det' (by rfl) (by rfl) ?_; apply Exists.intro; refine ⟨fun w' hc hh => ?_, ?_⟩; (have hcell := grow_cell hc; clear hc hh; go_simp; rfl); simp only [Act.put, List.setIfInBounds_toArray, List.set_cons_zero, List.set_cons_succ, Nat.reduceAdd]))
  refine wpGrow_eff' (by rfl) (by rfl) (fun w' hc hh => ?_) (fun v lo hi w' hap hc hh hv => ?_)
  · clear hc hh
    go_simp
    go_at_call 51
    refine (K.out _).mono ?_
    rintro e w2 ⟨rfl, hg⟩
    exact EffPost.mk hg rfl
  obtain rfl := hv
  clear hc hh hap w'
  simp only [Act.put, List.setIfInBounds_toArray, List.set_cons_zero, List.set_cons_succ, Nat.reduceAdd]
  repeat (first
    | (refine wpGrow_skip (by rfl) ?_; simp only [Act.put, List.setIfInBounds_toArray, List.set_cons_zero, List.set_cons_succ, Nat.reduceAdd])
    | (refine wpGrow_det' (by rfl) (by rfl) ?_; apply Exists.intro; refine ⟨fun w' hc hh => ?_, ?_⟩; (have hcell := grow_cell hc; clear hc hh; go_simp; rfl); simp only [Act.put, List.setIfInBounds_toArray, List.set_cons_zero, List.set_cons_succ, Nat.reduceAdd]))
  refine wpGrow_eff' (by rfl) (by rfl) (fun w' hc hh => ?_) (fun v lo hi w' hap hc hh hv => ?_)
  · clear hc hh
    go_simp
    go_at_call 44
    refine (plainP3_calls _ _ _ _).mono ?_
    rintro e w2 ⟨rfl, hg⟩
    exact EffPost.mk hg rfl
  obtain rfl := hv
  clear hc hh hap w'
  simp only [Act.put, List.setIfInBounds_toArray, List.set_cons_zero, List.set_cons_succ, Nat.reduceAdd]
  repeat (first
    | (refine wpGrow_skip (by rfl) ?_; simp only [Act.put, List.setIfInBounds_toArray, List.set_cons_zero, List.set_cons_succ, Nat.reduceAdd])
    | (refine wpGrow_det' (by rfl) (by rfl) ?_; apply Exists.intro; refine ⟨fun w' hc hh => ?_, ?_⟩; (have hcell := grow_cell hc; clear hc hh; go_simp; rfl); simp only [Act.put, List.setIfInBounds_toArray, List.set_cons_zero, List.set_cons_succ, Nat.reduceAdd]))
  refine wpGrow_nil ?_
  intro w1 hg hh
  clear hh
  have hcell := grow_cell hg
  have hfr := grow_frozen hg
  go_wp2
  exact bodyPost_ret (v := P3V z0 z1 z2) (by simp [results, Try.results29, go_sem, hcell]) rfl ⟨rfl, ((((((Grow.refl w).alloc _).alloc _).trans hg).setCell (by simp) _).setCell (by simp) _).setCell (by simp) _⟩
theorem rempty3_calls (x y z u v t : Nat) (w : World) : Calls Try.prog 52 #[B3V x y z u v t] w fun e w' => e = .returned (.bool ((FloatKind.f64.format.order x u == some .gt || FloatKind.f64.format.order x u == some .eq) || ((FloatKind.f64.format.order y v == some .gt || FloatKind.f64.format.order y v == some .eq) || (FloatKind.f64.format.order z t == some .gt || FloatKind.f64.format.order z t == some .eq)))) ∧ Grow w w' := by
  cases h0 : (FloatKind.f64.format.order x u == some .gt || FloatKind.f64.format.order x u == some .eq) with
  | true =>
    go_enter Try.func52, Try.ntmps52
    go_wp2
    go_ret
    exact ⟨by simp, (Grow.refl w).alloc _⟩
  | false =>
  cases h1 : (FloatKind.f64.format.order y v == some .gt || FloatKind.f64.format.order y v == some .eq) with
  | true =>
    go_enter Try.func52, Try.ntmps52
    go_wp2
    go_ret
    exact ⟨by simp, (Grow.refl w).alloc _⟩
  | false =>
  cases h2 : (FloatKind.f64.format.order z t == some .gt || FloatKind.f64.format.order z t == some .eq) with
  | true =>
    go_enter Try.func52, Try.ntmps52
    go_wp2
    go_ret
    exact ⟨by simp, (Grow.refl w).alloc _⟩
  | false =>
  go_enter Try.func52, Try.ntmps52
  go_wp2
  go_ret
  exact ⟨by simp, (Grow.refl w).alloc _⟩
theorem empty3_calls (x y z u v t : Nat) (w : World) : Calls Try.prog 30 #[B3V x y z u v t] w fun e w' => e = .returned (.bool ((FloatKind.f64.format.order x u == some .gt || FloatKind.f64.format.order x u == some .eq) || ((FloatKind.f64.format.order y v == some .gt || FloatKind.f64.format.order y v == some .eq) || (FloatKind.f64.format.order z t == some .gt || FloatKind.f64.format.order z t == some .eq)))) ∧ Grow w w' := by
  have K := Lib.hid (fun w => rempty3_calls x y z u v t w)
  generalize ((FloatKind.f64.format.order x u == some .gt || FloatKind.f64.format.order x u == some .eq) || ((FloatKind.f64.format.order y v == some .gt || FloatKind.f64.format.order y v == some .eq) || (FloatKind.f64.format.order z t == some .gt || FloatKind.f64.format.order z t == some .eq))) = bb at K ⊢
  go_enter Try.func30, Try.ntmps30
  go_wp2
  refine wp_region_grow (fun i => if i = 2 then some (fun _ _ => (fun V _ => V = P3V x y z)) else if i = 5 then some (fun _ _ => (fun V _ => V = P3V u v t)) else if i = 7 then some (fun _ _ => (fun V _ => V = .bool bb)) else none) (by kernel_rfl) (by kernel_rfl) ?_ ?_
  · intro i Φ h lo hi v
    (repeat' split at h) <;> cases h
    · exact fun _ _ h _ => h
    · exact fun _ _ h _ => h
    · exact fun _ _ h _ => h
  repeat (first
    | (refine wpGrow_skip (by rfl) ?_; simp only [Act.put, List.setIfInBounds_toArray, List.set_cons_zero, List.set_cons_succ, Nat.reduceAdd])
    | (refine wpGrow_det' (by rfl) (by rfl) ?_; apply Exists.intro; refine ⟨fun w' hc hh => ?_, ?_⟩; (have hcell := grow_cell hc; clear hc hh; go_simp; rfl); simp only [Act.put, List.setIfInBounds_toArray, List.set_cons_zero, List.set_cons_succ, Nat.reduceAdd]))
  refine wpGrow_eff' (by rfl) (by rfl) (fun w' hc hh => ?_) (fun v lo hi w' hap hc hh hv => ?_)
  · clear hc hh
    go_simp
    go_at_call 39
    refine (vec3_calls _ _ _ _).mono ?_
    rintro e w2 ⟨rfl, hg⟩
    exact EffPost.mk hg rfl
  obtain rfl := hv
  clear hc hh hap w'
  simp only [Act.put, List.setIfInBounds_toArray, List.set_cons_zero, List.set_cons_succ, Nat.reduceAdd]
  repeat (first
    | (refine wpGrow_skip (by rfl) ?_; simp only [Act.put, List.setIfInBounds_toArray, List.set_cons_zero, List.set_cons_succ, Nat.reduceAdd])
    | (refine wpGrow_det' (by rfl) (by rfl) ?_; apply Exists.intro; refine ⟨fun w' hc hh => ?_, ?_⟩; (have hcell := grow_cell hc; clear hc hh; go_simp; rfl); simp only [Act.put, List.setIfInBounds_toArray, List.set_cons_zero, List.set_cons_succ, Nat.reduceAdd]))
  refine wpGrow_eff' (by rfl) (by rfl) (fun w' hc hh => ?_) (fun v lo hi w' hap hc hh hv => ?_)
  · clear hc hh
    go_simp
    go_at_call 39
    refine (vec3_calls _ _ _ _).mono ?_
    rintro e w2 ⟨rfl, hg⟩
    exact EffPost.mk hg rfl
  obtain rfl := hv
  clear hc hh hap w'
  simp only [Act.put, List.setIfInBounds_toArray, List.set_cons_zero, List.set_cons_succ, Nat.reduceAdd]
  repeat (first
    | (refine wpGrow_skip (by rfl) ?_; simp only [Act.put, List.setIfInBounds_toArray, List.set_cons_zero, List.set_cons_succ, Nat.reduceAdd])
    | (refine wpGrow_det' (by rfl) (by rfl) ?_; apply Exists.intro; refine ⟨fun w' hc hh => ?_, ?_⟩; (have hcell := grow_cell hc; clear hc hh; go_simp; rfl); simp only [Act.put, List.setIfInBounds_toArray, List.set_cons_zero, List.set_cons_succ, Nat.reduceAdd]))
  refine wpGrow_eff' (by rfl) (by rfl) (fun w' hc hh => ?_) (fun v lo hi w' hap hc hh hv => ?_)
  · clear hc hh
    go_simp
    go_at_call 52
    refine (K.out _).mono ?_
    rintro e w2 ⟨rfl, hg⟩
    exact EffPost.mk hg rfl
  obtain rfl := hv
  clear hc hh hap w'
  simp only [Act.put, List.setIfInBounds_toArray, List.set_cons_zero, List.set_cons_succ, Nat.reduceAdd]
  repeat (first
    | (refine wpGrow_skip (by rfl) ?_; simp only [Act.put, List.setIfInBounds_toArray, List.set_cons_zero, List.set_cons_succ, Nat.reduceAdd])
    | (refine wpGrow_det' (by rfl) (by rfl) ?_; apply Exists.intro; refine ⟨fun w' hc hh => ?_, ?_⟩; (have hcell := grow_cell hc; clear hc hh; go_simp; rfl); simp only [Act.put, List.setIfInBounds_toArray, List.set_cons_zero, List.set_cons_succ, Nat.reduceAdd]))
  refine wpGrow_nil ?_
  intro w1 hg hh
  go_wp2
  go_ret
  exact ⟨rfl, ((Grow.refl w).alloc _).trans hg⟩
theorem box3_calls (x y z u v t : Nat) (w : World) : Calls Try.prog 21 #[P3V x y z, P3V u v t] w fun e w' => e = .returned (B3V x y z u v t) ∧ Grow w w' := by
  go_enter Try.func21, Try.ntmps21
  go_wp2
  exact bodyPost_ret (v := B3V x y z u v t) (by simp [results, Try.results21, go_sem]) rfl ⟨rfl, (((Grow.refl w).alloc _).alloc _).alloc _⟩
end Go.Proofs.Ytincapjbhbmeiaa
