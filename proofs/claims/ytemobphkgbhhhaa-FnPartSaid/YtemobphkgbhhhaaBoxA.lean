import Derived.Test.YtemobphkgbhhhaaFloats
import Derived.Defers
import Derived.Recover
namespace Go.Proofs.Ytemobphkgbhhhaa
open Go.ChangeShapes Go.WideShapes Go.ChangeAt Go.RowKit Go.GrowR
set_option linter.unusedVariables false
set_option linter.unusedSimpArgs false
def strideN (n : Int) : Int := if n < 1 then 0 else if n = 1 then 2 else if n = 2 ∨ n = 3 then 3 else n
theorem stride_calls (n : Int) (w : World) : Calls Try.prog 23 #[.int .i64 n] w fun e w' => e = .returned (.int .i64 (strideN n)) ∧ w' = w := by
  by_cases h1 : n < 1
  · go_enter Try.func23, Try.ntmps23
    go_wp2
    go_ret
    exact ⟨by simp [strideN, h1], rfl⟩
  by_cases h2 : n = 1
  · subst h2
    go_enter Try.func23, Try.ntmps23
    go_wp2
    go_ret
    exact ⟨by simp [strideN], rfl⟩
  by_cases h3 : n = 2
  · subst h3
    go_enter Try.func23, Try.ntmps23
    go_wp2
    go_ret
    exact ⟨by simp [strideN], rfl⟩
  by_cases h4 : n = 3
  · subst h4
    go_enter Try.func23, Try.ntmps23
    go_wp2
    go_ret
    exact ⟨by simp [strideN], rfl⟩
  have R : Hid (strideN n = n) := by show _ = _; simp [strideN, h1, h2, h3, h4]
  have e2 : (n == 1) = false := by rw [beq_eq_false_iff_ne]; exact h2
  have e3 : (n == 2) = false := by rw [beq_eq_false_iff_ne]; exact h3
  have e4 : (n == 3) = false := by rw [beq_eq_false_iff_ne]; exact h4
  clear h2 h3 h4
  go_enter Try.func23, Try.ntmps23
  go_wp2
  go_ret
  exact ⟨by rw [R.out]; rfl, rfl⟩
theorem gNumber_calls (x : Nat) (w : World) : Calls Try.prog 47 #[.float .f64 x] w fun e w' => e = .returned (.bool (FloatKind.f64.format.order x x == some .eq)) ∧ w' = w := by
  go_enter Try.func47, Try.ntmps47
  go_wp2
  go_ret
  exact ⟨rfl, rfl⟩
abbrev BxV (n : Int) (u v : Value) : Value := .agg #[.int .i64 n, u, v]
def BPtr (n : Int) (xs ys : List Nat) (V : Value) (w : World) : Prop := ∃ b u v, V = .pointer (some ⟨b, 0, none⟩) ∧ w.cell? ⟨b, 0, none⟩ = some (.int .i64 n) ∧ w.cell? ⟨b, 1, none⟩ = some u ∧ w.cell? ⟨b, 2, none⟩ = some v ∧ FSl u xs w ∧ FSl v ys w
theorem BPtr.up {n : Int} {xs ys : List Nat} {V : Value} : Up (BPtr n xs ys V) := fun _ _ ⟨b, u, v, h0, h1, h2, h3, h4, h5⟩ hg => ⟨b, u, v, h0, up_cell h1 hg, up_cell h2 hg, up_cell h3 hg, FSl.up _ _ h4 hg, FSl.up _ _ h5 hg⟩
theorem doorBounds_calls (n : Int) (u v : Value) (xs ys : List Nat) (w : World) (hu : FSl u xs w) (hv : FSl v ys w) : Calls Try.prog 90 #[.int .i64 n, u, v] w (EffPost (fun _ _ => BPtr n xs ys) w) := by
  have HU := Lib.hid hu
  have HV := Lib.hid hv
  obtain ⟨A, c, rfl, -, -⟩ := hu
  obtain ⟨B, d, rfl, -, -⟩ := hv
  go_enter Try.func90, Try.ntmps90
  go_wp2
  go_ret
  exact EffPost.mk ((Grow.refl w).alloc _) ⟨_, _, _, rfl, by go_simp, by go_simp, by go_simp, FSl.up _ _ HU.out ((Grow.refl w).alloc _), FSl.up _ _ HV.out ((Grow.refl w).alloc _)⟩
set_option maxHeartbeats 2000000 in
theorem box_calls (n : Int) (u v : Value) (xs ys : List Nat) (w : World) (hu : FSl u xs w) (hv : FSl v ys w) (hl : xs.length ≤ 1099511627776) (hl2 : ys.length ≤ 1099511627776) : Calls Try.prog 52 #[BxV n u v] w (EffPost (fun _ _ => BPtr n xs ys) w) := by
  have HU := Lib.hid hu
  have HV := Lib.hid hv
  obtain ⟨A, c, rfl, -, -⟩ := hu
  obtain ⟨B, d, rfl, -, -⟩ := hv
  go_enter Try.func52, Try.ntmps52
  go_wp2
  refine wp_region_grow (fun i => if i = 4 then some (fun _ _ V w => FSl V xs w) else if i = 7 then some (fun _ _ V w => FSl V ys w) else if i = 8 then some (fun _ _ => BPtr n xs ys) else none) (by kernel_rfl) (by kernel_rfl) ?_ ?_
  · intro i Φ h lo hi v
    (repeat' split at h) <;> cases h
    · exact FSl.up
    · exact FSl.up
    · exact BPtr.up
  repeat (first
    | (refine wpGrow_skip (by rfl) ?_; simp only [Act.put, List.setIfInBounds_toArray, List.set_cons_zero, List.set_cons_succ, Nat.reduceAdd])
    | (refine wpGrow_det' (by rfl) (by rfl) ?_; apply Exists.intro; refine ⟨fun w' hc hh => ?_, ?_⟩; (have hcell := grow_cell hc; clear hc hh; go_simp; rfl); simp only [Act.put, List.setIfInBounds_toArray, List.set_cons_zero, List.set_cons_succ, Nat.reduceAdd]))
  refine wpGrow_eff' (by rfl) (by rfl) (fun w' hc hh => ?_) (fun v lo hi w' hap hc hh hv => ?_)
  · have HX := Lib.hid (FSl.up _ _ HU.out (((Grow.refl w).alloc _).trans hc))
    clear hc hh
    go_simp
    go_at_call 59
    refine (floats_calls _ xs _ HX.out hl).mono ?_
    rintro e w2 ⟨V, rfl, hg, hown⟩
    exact EffPost.mk hg hown.sl.f
  obtain ⟨A4, c4, rfl, -, -⟩ := hv
  clear hc hh hap w'
  simp only [Act.put, List.setIfInBounds_toArray, List.set_cons_zero, List.set_cons_succ, Nat.reduceAdd]
  repeat (first
    | (refine wpGrow_skip (by rfl) ?_; simp only [Act.put, List.setIfInBounds_toArray, List.set_cons_zero, List.set_cons_succ, Nat.reduceAdd])
    | (refine wpGrow_det' (by rfl) (by rfl) ?_; apply Exists.intro; refine ⟨fun w' hc hh => ?_, ?_⟩; (have hcell := grow_cell hc; clear hc hh; go_simp; rfl); simp only [Act.put, List.setIfInBounds_toArray, List.set_cons_zero, List.set_cons_succ, Nat.reduceAdd]))
  refine wpGrow_eff' (by rfl) (by rfl) (fun w' hc hh => ?_) (fun v lo hi w' hap hc hh hv => ?_)
  · have HX := Lib.hid (FSl.up _ _ HV.out (((Grow.refl w).alloc _).trans hc))
    clear hc hh
    go_simp
    go_at_call 59
    refine (floats_calls _ ys _ HX.out hl2).mono ?_
    rintro e w2 ⟨V, rfl, hg, hown⟩
    exact EffPost.mk hg hown.sl.f
  obtain ⟨A7, c7, rfl, -, -⟩ := hv
  clear hc hh hap w'
  simp only [Act.put, List.setIfInBounds_toArray, List.set_cons_zero, List.set_cons_succ, Nat.reduceAdd]
  repeat (first
    | (refine wpGrow_skip (by rfl) ?_; simp only [Act.put, List.setIfInBounds_toArray, List.set_cons_zero, List.set_cons_succ, Nat.reduceAdd])
    | (refine wpGrow_det' (by rfl) (by rfl) ?_; apply Exists.intro; refine ⟨fun w' hc hh => ?_, ?_⟩; (have hcell := grow_cell hc; clear hc hh; go_simp; rfl); simp only [Act.put, List.setIfInBounds_toArray, List.set_cons_zero, List.set_cons_succ, Nat.reduceAdd]))
  refine wpGrow_eff' (by rfl) (by rfl) (fun w' hc hh => ?_) (fun v lo hi w' hap hc hh hv => ?_)
  · have H0 := Lib.hid (hh 4 (anc_of 9 (by kernel_rfl)))
    have H1 := Lib.hid (hh 7 (anc_of 9 (by kernel_rfl)))
    clear hc hh
    go_simp
    go_at_call 90
    exact doorBounds_calls _ _ _ xs ys _ H0.out H1.out
  obtain ⟨b, u', v', rfl, -⟩ := hv
  clear hc hh hap w'
  simp only [Act.put, List.setIfInBounds_toArray, List.set_cons_zero, List.set_cons_succ, Nat.reduceAdd]
  repeat (first
    | (refine wpGrow_skip (by rfl) ?_; simp only [Act.put, List.setIfInBounds_toArray, List.set_cons_zero, List.set_cons_succ, Nat.reduceAdd])
    | (refine wpGrow_det' (by rfl) (by rfl) ?_; apply Exists.intro; refine ⟨fun w' hc hh => ?_, ?_⟩; (have hcell := grow_cell hc; clear hc hh; go_simp; rfl); simp only [Act.put, List.setIfInBounds_toArray, List.set_cons_zero, List.set_cons_succ, Nat.reduceAdd]))
  refine wpGrow_nil ?_
  intro w1 hg hh
  have HB := Lib.hid (hh 8).1
  clear hh
  go_wp2
  go_ret
  exact EffPost.mk (((Grow.refl w).alloc _).trans hg) HB.out
end Go.Proofs.Ytemobphkgbhhhaa
