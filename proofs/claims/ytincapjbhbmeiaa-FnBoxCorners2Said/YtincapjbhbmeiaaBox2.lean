import Derived.Test.YtincapjbhbmeiaaDot2
import Derived.Test.YtincapjbhbmeiaaFlF
namespace Go.Proofs.Ytincapjbhbmeiaa
open Go.ChangeShapes Go.WideShapes Go.ChangeAt Go.RowKit Go.GrowR
set_option linter.unusedVariables false
set_option linter.unusedSimpArgs false
theorem sub2_calls (x y u v z0 z1 : Nat) (w : World) (h0 : floatBits .sub .f64 x u = some z0) (h1 : floatBits .sub .f64 y v = some z1) : Calls Try.prog 61 #[P2V x y, P2V u v] w fun e w' => e = .returned (P2V z0 z1) ∧ Grow w w' := by
  have f0 := fop (P := Try.prog) h0
  have f1 := fop (P := Try.prog) h1
  clear h0 h1
  go_enter Try.func61, Try.ntmps61
  go_wp2
  exact bodyPost_ret (v := P2V z0 z1) (by simp [results, Try.results61, go_sem]) rfl ⟨rfl, (((Grow.refl w).alloc _).alloc _).alloc _⟩
theorem add2_calls (x y u v z0 z1 : Nat) (w : World) (h0 : floatBits .add .f64 x u = some z0) (h1 : floatBits .add .f64 y v = some z1) : Calls Try.prog 63 #[P2V x y, P2V u v] w fun e w' => e = .returned (P2V z0 z1) ∧ Grow w w' := by
  have f0 := fop (P := Try.prog) h0
  have f1 := fop (P := Try.prog) h1
  clear h0 h1
  go_enter Try.func63, Try.ntmps63
  go_wp2
  exact bodyPost_ret (v := P2V z0 z1) (by simp [results, Try.results63, go_sem]) rfl ⟨rfl, (((Grow.refl w).alloc _).alloc _).alloc _⟩
theorem scale2_calls (c x y z0 z1 : Nat) (w : World) (h0 : floatBits .mul .f64 c x = some z0) (h1 : floatBits .mul .f64 c y = some z1) : Calls Try.prog 62 #[.float .f64 c, P2V x y] w fun e w' => e = .returned (P2V z0 z1) ∧ Grow w w' := by
  have f0 := fop (P := Try.prog) h0
  have f1 := fop (P := Try.prog) h1
  clear h0 h1
  go_enter Try.func62, Try.ntmps62
  go_wp2
  exact bodyPost_ret (v := P2V z0 z1) (by simp [results, Try.results62, go_sem]) rfl ⟨rfl, ((Grow.refl w).alloc _).alloc _⟩
abbrev B2V (x y u v : Nat) : Value := .agg #[.float .f64 x, .float .f64 y, .float .f64 u, .float .f64 v]
theorem rsize2_calls (x y u v z0 z1 : Nat) (w : World) (h0 : floatBits .sub .f64 u x = some z0) (h1 : floatBits .sub .f64 v y = some z1) : Calls Try.prog 47 #[B2V x y u v] w fun e w' => e = .returned (P2V z0 z1) ∧ Grow w w' := by
  have K := Lib.hid (fun w => sub2_calls u v x y z0 z1 w h0 h1)
  clear h0 h1
  go_enter Try.func47, Try.ntmps47
  go_wp2_with fail
  refine (K.out _).mono ?_; rintro e w1 ⟨rfl, hg⟩
  have hcell := grow_cell hg
  have hfr := grow_frozen hg
  go_wp2
  exact bodyPost_ret (v := P2V z0 z1) (by simp [results, Try.results47, go_sem, hcell]) rfl ⟨rfl, (((((Grow.refl w).alloc _).alloc _).trans hg).setCell (by simp) _).setCell (by simp) _⟩
theorem size2_calls (x y u v z0 z1 : Nat) (w : World) (h0 : floatBits .sub .f64 u x = some z0) (h1 : floatBits .sub .f64 v y = some z1) : Calls Try.prog 25 #[B2V x y u v] w fun e w' => e = .returned (P2V z0 z1) ∧ Grow w w' := by
  have K := Lib.hid (fun w => rsize2_calls x y u v z0 z1 w h0 h1)
  clear h0 h1
  go_enter Try.func25, Try.ntmps25
  go_wp2
  refine wp_region_grow_tail 9 (fun i => if i = 2 then some (fun _ _ => (fun V _ => V = P2V x y)) else if i = 5 then some (fun _ _ => (fun V _ => V = P2V u v)) else if i = 7 then some (fun _ _ => (fun V _ => V = P2V z0 z1)) else if i = 8 then some (fun _ _ => (fun V _ => V = P2V z0 z1)) else none) (by kernel_rfl) (by kernel_rfl) ?_ ?_
  · intro i Φ h lo hi v
    (repeat' split at h) <;> cases h
    · exact fun _ _ h _ => h
    · exact fun _ _ h _ => h
    · exact fun _ _ h _ => h
    · exact fun _ _ h _ => h
  simp only [List.take_succ_cons, List.take_zero, List.drop_succ_cons, List.drop_zero]
  repeat (first
    | (refine wpGrow_skip (by rfl) ?_; simp only [Act.put, List.setIfInBounds_toArray, List.set_cons_zero, List.set_cons_succ, Nat.reduceAdd])
    | (refine wpGrow_det' (by rfl) (by rfl) ?_; apply Exists.intro; refine ⟨fun w' hc hh => ?_, ?_⟩; (have hcell := grow_cell hc; clear hc hh; go_simp; rfl); simp only [Act.put, List.setIfInBounds_toArray, List.set_cons_zero, List.set_cons_succ, Nat.reduceAdd]))
  refine wpGrow_eff' (by rfl) (by rfl) (fun w' hc hh => ?_) (fun v lo hi w' hap hc hh hv => ?_)
  · clear hc hh
    go_simp
    go_at_call 36
    refine (vec2_calls _ _ _).mono ?_
    rintro e w2 ⟨rfl, hg⟩
    exact EffPost.mk hg rfl
  obtain rfl := hv
  clear hc hh hap w'
  simp only [Act.put, List.setIfInBounds_toArray, List.set_cons_zero, List.set_cons_succ, Nat.reduceAdd]
  repeat (first
    | (refine wpGrow_skip (by rfl) ?_; simp only [Act.put, List.setIfInBounds_toArray, List.set_cons_zero, List.set_cons_succ, Nat.reduceAdd])
    | (refine wpGrow_det' (by rfl) (by rfl) ?_; apply Exists.intro; refine ⟨fun w' hc hh => ?_, ?_⟩; (have hcell := grow_cell hc; clear hc hh; go_simp; rfl); simp only [Act.put, List.setIfInBounds_toArray, List.set_cons_zero, List.set_cons_succ, Nat.reduceAdd]))
  refine wpGrow_eff' (by rfl) (by rfl) (fun w' hc hh => ?_) (fun v lo hi w' hap hc hh hv => ?_)
  · clear hc hh
    go_simp
    go_at_call 36
    refine (vec2_calls _ _ _).mono ?_
    rintro e w2 ⟨rfl, hg⟩
    exact EffPost.mk hg rfl
  obtain rfl := hv
  clear hc hh hap w'
  simp only [Act.put, List.setIfInBounds_toArray, List.set_cons_zero, List.set_cons_succ, Nat.reduceAdd]
  repeat (first
    | (refine wpGrow_skip (by rfl) ?_; simp only [Act.put, List.setIfInBounds_toArray, List.set_cons_zero, List.set_cons_succ, Nat.reduceAdd])
    | (refine wpGrow_det' (by rfl) (by rfl) ?_; apply Exists.intro; refine ⟨fun w' hc hh => ?_, ?_⟩; (have hcell := grow_cell hc; clear hc hh; go_simp; rfl); simp only [Act.put, List.setIfInBounds_toArray, List.set_cons_zero, List.set_cons_succ, Nat.reduceAdd]))
  refine wpGrow_eff' (by rfl) (by rfl) (fun w' hc hh => ?_) (fun v lo hi w' hap hc hh hv => ?_)
  · clear hc hh
    go_simp
    go_at_call 47
    refine (K.out _).mono ?_
    rintro e w2 ⟨rfl, hg⟩
    exact EffPost.mk hg rfl
  obtain rfl := hv
  clear hc hh hap w'
  simp only [Act.put, List.setIfInBounds_toArray, List.set_cons_zero, List.set_cons_succ, Nat.reduceAdd]
  repeat (first
    | (refine wpGrow_skip (by rfl) ?_; simp only [Act.put, List.setIfInBounds_toArray, List.set_cons_zero, List.set_cons_succ, Nat.reduceAdd])
    | (refine wpGrow_det' (by rfl) (by rfl) ?_; apply Exists.intro; refine ⟨fun w' hc hh => ?_, ?_⟩; (have hcell := grow_cell hc; clear hc hh; go_simp; rfl); simp only [Act.put, List.setIfInBounds_toArray, List.set_cons_zero, List.set_cons_succ, Nat.reduceAdd]))
  refine wpGrow_eff' (by rfl) (by rfl) (fun w' hc hh => ?_) (fun v lo hi w' hap hc hh hv => ?_)
  · clear hc hh
    go_simp
    go_at_call 42
    refine (plainP2_calls _ _ _).mono ?_
    rintro e w2 ⟨rfl, hg⟩
    exact EffPost.mk hg rfl
  obtain rfl := hv
  clear hc hh hap w'
  simp only [Act.put, List.setIfInBounds_toArray, List.set_cons_zero, List.set_cons_succ, Nat.reduceAdd]
  repeat (first
    | (refine wpGrow_skip (by rfl) ?_; simp only [Act.put, List.setIfInBounds_toArray, List.set_cons_zero, List.set_cons_succ, Nat.reduceAdd])
    | (refine wpGrow_det' (by rfl) (by rfl) ?_; apply Exists.intro; refine ⟨fun w' hc hh => ?_, ?_⟩; (have hcell := grow_cell hc; clear hc hh; go_simp; rfl); simp only [Act.put, List.setIfInBounds_toArray, List.set_cons_zero, List.set_cons_succ, Nat.reduceAdd]))
  refine wpGrow_nil ?_
  intro w1 hg hh
  clear hh
  have hcell := grow_cell hg
  have hfr := grow_frozen hg
  go_wp2
  exact bodyPost_ret (v := P2V z0 z1) (by simp [results, Try.results25, go_sem, hcell]) rfl ⟨rfl, (((((Grow.refl w).alloc _).alloc _).trans hg).setCell (by simp) _).setCell (by simp) _⟩
theorem rcenter2_calls (x y u v s0 s1 z0 z1 : Nat) (w : World) (g0 : floatBits .add .f64 x u = some s0) (h0 : floatBits .mul .f64 4602678819172646912 s0 = some z0) (g1 : floatBits .add .f64 y v = some s1) (h1 : floatBits .mul .f64 4602678819172646912 s1 = some z1) : Calls Try.prog 48 #[B2V x y u v] w fun e w' => e = .returned (P2V z0 z1) ∧ Grow w w' := by
  have K1 := Lib.hid (fun w => add2_calls x y u v s0 s1 w g0 g1)
  have K2 := Lib.hid (fun w => scale2_calls 4602678819172646912 s0 s1 z0 z1 w h0 h1)
  clear g0 g1 h0 h1
  go_enter Try.func48, Try.ntmps48
  go_wp2_with fail
  refine (K1.out _).mono ?_; rintro e w1 ⟨rfl, hg1⟩
  go_wp2_with fail
  refine (K2.out _).mono ?_; rintro e w2 ⟨rfl, hg2⟩
  have hg := hg1.trans hg2
  have hcell := grow_cell hg
  have hfr := grow_frozen hg
  clear hg1 hg2
  go_wp2
  exact bodyPost_ret (v := P2V z0 z1) (by simp [results, Try.results48, go_sem, hcell]) rfl ⟨rfl, (((((Grow.refl w).alloc _).alloc _).trans hg).setCell (by simp) _).setCell (by simp) _⟩
theorem center2_calls (x y u v s0 s1 z0 z1 : Nat) (w : World) (g0 : floatBits .add .f64 x u = some s0) (h0 : floatBits .mul .f64 4602678819172646912 s0 = some z0) (g1 : floatBits .add .f64 y v = some s1) (h1 : floatBits .mul .f64 4602678819172646912 s1 = some z1) : Calls Try.prog 26 #[B2V x y u v] w fun e w' => e = .returned (P2V z0 z1) ∧ Grow w w' := by
  have K := Lib.hid (fun w => rcenter2_calls x y u v s0 s1 z0 z1 w g0 h0 g1 h1)
  clear g0 g1 h0 h1
  go_enter Try.func26, Try.ntmps26
  go_wp2
  refine wp_region_grow_tail 9 (fun i => if i = 2 then some (fun _ _ => (fun V _ => V = P2V x y)) else if i = 5 then some (fun _ _ => (fun V _ => V = P2V u v)) else if i = 7 then some (fun _ _ => (fun V _ => V = P2V z0 z1)) else if i = 8 then some (fun _ _ => (fun V _ => V = P2V z0 z1)) else none) (by kernel_rfl) (by kernel_rfl) ?_ ?_
  · intro i Φ h lo hi v
    (repeat' split at h) <;> cases h
    · exact fun _ _ h _ => h
    · exact fun _ _ h _ => h
    · exact fun _ _ h _ => h
    · exact fun _ _ h _ => h
  simp only [List.take_succ_cons, List.take_zero, List.drop_succ_cons, List.drop_zero]
  repeat (first
    | (refine wpGrow_skip (by rfl) ?_; simp only [Act.put, List.setIfInBounds_toArray, List.set_cons_zero, List.set_cons_succ, Nat.reduceAdd])
    | (refine wpGrow_det' (by rfl) (by rfl) ?_; apply Exists.intro; refine ⟨fun w' hc hh => ?_, ?_⟩; (have hcell := grow_cell hc; clear hc hh; go_simp; rfl); simp only [Act.put, List.setIfInBounds_toArray, List.set_cons_zero, List.set_cons_succ, Nat.reduceAdd]))
  refine wpGrow_eff' (by rfl) (by rfl) (fun w' hc hh => ?_) (fun v lo hi w' hap hc hh hv => ?_)
  · clear hc hh
    go_simp
    go_at_call 36
    refine (vec2_calls _ _ _).mono ?_
    rintro e w2 ⟨rfl, hg⟩
    exact EffPost.mk hg rfl
  obtain rfl := hv
  clear hc hh hap w'
  simp only [Act.put, List.setIfInBounds_toArray, List.set_cons_zero, List.set_cons_succ, Nat.reduceAdd]
  repeat (first
    | (refine wpGrow_skip (by rfl) ?_; simp only [Act.put, List.setIfInBounds_toArray, List.set_cons_zero, List.set_cons_succ, Nat.reduceAdd])
    | (refine wpGrow_det' (by rfl) (by rfl) ?_; apply Exists.intro; refine ⟨fun w' hc hh => ?_, ?_⟩; (have hcell := grow_cell hc; clear hc hh; go_simp; rfl); simp only [Act.put, List.setIfInBounds_toArray, List.set_cons_zero, List.set_cons_succ, Nat.reduceAdd]))
  refine wpGrow_eff' (by rfl) (by rfl) (fun w' hc hh => ?_) (fun v lo hi w' hap hc hh hv => ?_)
  · clear hc hh
    go_simp
    go_at_call 36
    refine (vec2_calls _ _ _).mono ?_
    rintro e w2 ⟨rfl, hg⟩
    exact EffPost.mk hg rfl
  obtain rfl := hv
  clear hc hh hap w'
  simp only [Act.put, List.setIfInBounds_toArray, List.set_cons_zero, List.set_cons_succ, Nat.reduceAdd]
  repeat (first
    | (refine wpGrow_skip (by rfl) ?_; simp only [Act.put, List.setIfInBounds_toArray, List.set_cons_zero, List.set_cons_succ, Nat.reduceAdd])
    | (refine wpGrow_det' (by rfl) (by rfl) ?_; apply Exists.intro; refine ⟨fun w' hc hh => ?_, ?_⟩; (have hcell := grow_cell hc; clear hc hh; go_simp; rfl); simp only [Act.put, List.setIfInBounds_toArray, List.set_cons_zero, List.set_cons_succ, Nat.reduceAdd]))
  refine wpGrow_eff' (by rfl) (by rfl) (fun w' hc hh => ?_) (fun v lo hi w' hap hc hh hv => ?_)
  · clear hc hh
    go_simp
    go_at_call 48
    refine (K.out _).mono ?_
    rintro e w2 ⟨rfl, hg⟩
    exact EffPost.mk hg rfl
  obtain rfl := hv
  clear hc hh hap w'
  simp only [Act.put, List.setIfInBounds_toArray, List.set_cons_zero, List.set_cons_succ, Nat.reduceAdd]
  repeat (first
    | (refine wpGrow_skip (by rfl) ?_; simp only [Act.put, List.setIfInBounds_toArray, List.set_cons_zero, List.set_cons_succ, Nat.reduceAdd])
    | (refine wpGrow_det' (by rfl) (by rfl) ?_; apply Exists.intro; refine ⟨fun w' hc hh => ?_, ?_⟩; (have hcell := grow_cell hc; clear hc hh; go_simp; rfl); simp only [Act.put, List.setIfInBounds_toArray, List.set_cons_zero, List.set_cons_succ, Nat.reduceAdd]))
  refine wpGrow_eff' (by rfl) (by rfl) (fun w' hc hh => ?_) (fun v lo hi w' hap hc hh hv => ?_)
  · clear hc hh
    go_simp
    go_at_call 42
    refine (plainP2_calls _ _ _).mono ?_
    rintro e w2 ⟨rfl, hg⟩
    exact EffPost.mk hg rfl
  obtain rfl := hv
  clear hc hh hap w'
  simp only [Act.put, List.setIfInBounds_toArray, List.set_cons_zero, List.set_cons_succ, Nat.reduceAdd]
  repeat (first
    | (refine wpGrow_skip (by rfl) ?_; simp only [Act.put, List.setIfInBounds_toArray, List.set_cons_zero, List.set_cons_succ, Nat.reduceAdd])
    | (refine wpGrow_det' (by rfl) (by rfl) ?_; apply Exists.intro; refine ⟨fun w' hc hh => ?_, ?_⟩; (have hcell := grow_cell hc; clear hc hh; go_simp; rfl); simp only [Act.put, List.setIfInBounds_toArray, List.set_cons_zero, List.set_cons_succ, Nat.reduceAdd]))
  refine wpGrow_nil ?_
  intro w1 hg hh
  clear hh
  have hcell := grow_cell hg
  have hfr := grow_frozen hg
  go_wp2
  exact bodyPost_ret (v := P2V z0 z1) (by simp [results, Try.results26, go_sem, hcell]) rfl ⟨rfl, (((((Grow.refl w).alloc _).alloc _).trans hg).setCell (by simp) _).setCell (by simp) _⟩
theorem rempty2_calls (x y u v : Nat) (w : World) : Calls Try.prog 49 #[B2V x y u v] w fun e w' => e = .returned (.bool ((FloatKind.f64.format.order x u == some .gt || FloatKind.f64.format.order x u == some .eq) || (FloatKind.f64.format.order y v == some .gt || FloatKind.f64.format.order y v == some .eq))) ∧ Grow w w' := by
  cases h0 : (FloatKind.f64.format.order x u == some .gt || FloatKind.f64.format.order x u == some .eq) with
  | true =>
    go_enter Try.func49, Try.ntmps49
    go_wp2
    go_ret
    exact ⟨by simp, (Grow.refl w).alloc _⟩
  | false =>
  cases h1 : (FloatKind.f64.format.order y v == some .gt || FloatKind.f64.format.order y v == some .eq) with
  | true =>
    go_enter Try.func49, Try.ntmps49
    go_wp2
    go_ret
    exact ⟨by simp, (Grow.refl w).alloc _⟩
  | false =>
  go_enter Try.func49, Try.ntmps49
  go_wp2
  go_ret
  exact ⟨by simp, (Grow.refl w).alloc _⟩
theorem empty2_calls (x y u v : Nat) (w : World) : Calls Try.prog 27 #[B2V x y u v] w fun e w' => e = .returned (.bool ((FloatKind.f64.format.order x u == some .gt || FloatKind.f64.format.order x u == some .eq) || (FloatKind.f64.format.order y v == some .gt || FloatKind.f64.format.order y v == some .eq))) ∧ Grow w w' := by
  have K := Lib.hid (fun w => rempty2_calls x y u v w)
  generalize ((FloatKind.f64.format.order x u == some .gt || FloatKind.f64.format.order x u == some .eq) || (FloatKind.f64.format.order y v == some .gt || FloatKind.f64.format.order y v == some .eq)) = bb at K ⊢
  go_enter Try.func27, Try.ntmps27
  go_wp2
  refine wp_region_grow (fun i => if i = 2 then some (fun _ _ => (fun V _ => V = P2V x y)) else if i = 5 then some (fun _ _ => (fun V _ => V = P2V u v)) else if i = 7 then some (fun _ _ => (fun V _ => V = .bool bb)) else none) (by kernel_rfl) (by kernel_rfl) ?_ ?_
  · intro i Φ h lo hi v
    (repeat' split at h) <;> cases h
    · exact fun _ _ h _ => h
    · exact fun _ _ h _ => h
    · exact fun _ _ h _ => h
  repeat (first
    | (refine wpGrow_skip (by rfl) ?_; simp only [Act.put, List.setIfInBounds_toArray, List.set_cons_zero, List.set_cons_succ, Nat.reduceAdd])
    | (refine wpGrow_det' (by rfl) (by rfl) ?_; apply Exists.intro; refine ⟨fun w' hc hh => ?_, ?_⟩; (have hcell := grow_cell hc; clear hc hh; go_simp; rfl); simp only [Act.put, List.setIfInBounds_toArray, List.set_cons_zero, List.set_cons_succ, Nat.reduceAdd]))
  refine wpGrow_eff' (by rfl) (by rfl) (fun w' hc hh => ?_) (fun v lo hi w' hap hc hh hv => ?_)
  · clear hc hh
    go_simp
    go_at_call 36
    refine (vec2_calls _ _ _).mono ?_
    rintro e w2 ⟨rfl, hg⟩
    exact EffPost.mk hg rfl
  obtain rfl := hv
  clear hc hh hap w'
  simp only [Act.put, List.setIfInBounds_toArray, List.set_cons_zero, List.set_cons_succ, Nat.reduceAdd]
  repeat (first
    | (refine wpGrow_skip (by rfl) ?_; simp only [Act.put, List.setIfInBounds_toArray, List.set_cons_zero, List.set_cons_succ, Nat.reduceAdd])
    | (refine wpGrow_det' (by rfl) (by rfl) ?_; apply Exists.intro; refine ⟨fun w' hc hh => ?_, ?_⟩; (have hcell := grow_cell hc; clear hc hh; go_simp; rfl); simp only [Act.put, List.setIfInBounds_toArray, List.set_cons_zero, List.set_cons_succ, Nat.reduceAdd]))
  refine wpGrow_eff' (by rfl) (by rfl) (fun w' hc hh => ?_) (fun v lo hi w' hap hc hh hv => ?_)
  · clear hc hh
    go_simp
    go_at_call 36
    refine (vec2_calls _ _ _).mono ?_
    rintro e w2 ⟨rfl, hg⟩
    exact EffPost.mk hg rfl
  obtain rfl := hv
  clear hc hh hap w'
  simp only [Act.put, List.setIfInBounds_toArray, List.set_cons_zero, List.set_cons_succ, Nat.reduceAdd]
  repeat (first
    | (refine wpGrow_skip (by rfl) ?_; simp only [Act.put, List.setIfInBounds_toArray, List.set_cons_zero, List.set_cons_succ, Nat.reduceAdd])
    | (refine wpGrow_det' (by rfl) (by rfl) ?_; apply Exists.intro; refine ⟨fun w' hc hh => ?_, ?_⟩; (have hcell := grow_cell hc; clear hc hh; go_simp; rfl); simp only [Act.put, List.setIfInBounds_toArray, List.set_cons_zero, List.set_cons_succ, Nat.reduceAdd]))
  refine wpGrow_eff' (by rfl) (by rfl) (fun w' hc hh => ?_) (fun v lo hi w' hap hc hh hv => ?_)
  · clear hc hh
    go_simp
    go_at_call 49
    refine (K.out _).mono ?_
    rintro e w2 ⟨rfl, hg⟩
    exact EffPost.mk hg rfl
  obtain rfl := hv
  clear hc hh hap w'
  simp only [Act.put, List.setIfInBounds_toArray, List.set_cons_zero, List.set_cons_succ, Nat.reduceAdd]
  repeat (first
    | (refine wpGrow_skip (by rfl) ?_; simp only [Act.put, List.setIfInBounds_toArray, List.set_cons_zero, List.set_cons_succ, Nat.reduceAdd])
    | (refine wpGrow_det' (by rfl) (by rfl) ?_; apply Exists.intro; refine ⟨fun w' hc hh => ?_, ?_⟩; (have hcell := grow_cell hc; clear hc hh; go_simp; rfl); simp only [Act.put, List.setIfInBounds_toArray, List.set_cons_zero, List.set_cons_succ, Nat.reduceAdd]))
  refine wpGrow_nil ?_
  intro w1 hg hh
  go_wp2
  go_ret
  exact ⟨rfl, ((Grow.refl w).alloc _).trans hg⟩
theorem box2_calls (x y u v : Nat) (w : World) : Calls Try.prog 19 #[P2V x y, P2V u v] w fun e w' => e = .returned (B2V x y u v) ∧ Grow w w' := by
  go_enter Try.func19, Try.ntmps19
  go_wp2
  exact bodyPost_ret (v := B2V x y u v) (by simp [results, Try.results19, go_sem]) rfl ⟨rfl, (((Grow.refl w).alloc _).alloc _).alloc _⟩
end Go.Proofs.Ytincapjbhbmeiaa
