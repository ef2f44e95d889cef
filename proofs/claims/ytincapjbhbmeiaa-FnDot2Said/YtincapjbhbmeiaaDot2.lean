import Derived.Test.YtincapjbhbmeiaaP2
import Derived.Laws.FloatArith
namespace Go.Proofs.Ytincapjbhbmeiaa
open Go.ChangeShapes Go.WideShapes Go.ChangeAt Go.RowKit Go.GrowR
set_option linter.unusedVariables false

abbrev P2V (x y : Nat) : Value := .agg #[.float .f64 x, .float .f64 y]

theorem vec2_calls (x y : Nat) (w : World) : Calls Try.prog 36 #[P2V x y] w fun e w' => e = .returned (P2V x y) ∧ Grow w w' := by
  go_enter Try.func36, Try.ntmps36
  go_wp2
  exact bodyPost_ret (v := P2V x y) (by simp [results, Try.results36, go_sem]) rfl ⟨rfl, ((Grow.refl w).alloc _).alloc _⟩

/-- a float that is a whole number -/
def FI (n : Int) (v : Value) (_ : World) : Prop := ∃ z, v = .float .f64 z ∧ Fl.IsI z n
theorem FI.up {n : Int} {v : Value} : Up (FI n v) := fun _ _ h _ => h

theorem fop {P : Program} {op : BinOp} {x y z : Nat} (h : floatBits op .f64 x y = some z) : ∀ (t : TypeId) (w : World), (binOp op t (.float .f64 x) (.float .f64 y)).run P w = .ok (.float .f64 z) w := fun t w => run_float_arith w op t .f64 x y z h

theorem dot_calls (x y u v : Nat) (a b c d : Int) (w : World) (hx : Fl.IsI x a) (hy : Fl.IsI y b) (hu : Fl.IsI u c) (hv : Fl.IsI v d) (h1 : (a * c).natAbs ≤ 2 ^ 53) (h2 : (b * d).natAbs ≤ 2 ^ 53) (h3 : (a * c + b * d).natAbs ≤ 2 ^ 53) :
    Calls Try.prog 35 #[P2V x y, P2V u v] w fun e w' => (∃ z, e = .returned (.float .f64 z) ∧ Fl.IsI z (a * c + b * d)) ∧ Grow w w' := by
  obtain ⟨z1, e1, i1⟩ := Fl.mul_I hx hu h1
  obtain ⟨z2, e2, i2⟩ := Fl.mul_I hy hv h2
  obtain ⟨z3, e3, i3⟩ := Fl.add_I i1 i2 h3
  have f1 := fop (P := Try.prog) e1
  have f2 := fop (P := Try.prog) e2
  have f3 := fop (P := Try.prog) e3
  have I3 := Lib.hid i3
  clear hx hy hu hv h1 h2 h3 e1 e2 e3 i1 i2 i3
  go_enter Try.func35, Try.ntmps35
  go_wp2
  go_ret
  exact ⟨⟨z3, rfl, I3.out⟩, ((Grow.refl w).alloc _).alloc _⟩

theorem norm2_calls (x y : Nat) (a b : Int) (w : World) (hx : Fl.IsI x a) (hy : Fl.IsI y b) (h1 : (a * a).natAbs ≤ 2 ^ 53) (h2 : (b * b).natAbs ≤ 2 ^ 53) (h3 : (a * a + b * b).natAbs ≤ 2 ^ 53) :
    Calls Try.prog 37 #[P2V x y] w fun e w' => (∃ z, e = .returned (.float .f64 z) ∧ Fl.IsI z (a * a + b * b)) ∧ Grow w w' := by
  obtain ⟨z1, e1, i1⟩ := Fl.mul_I hx hx h1
  obtain ⟨z2, e2, i2⟩ := Fl.mul_I hy hy h2
  obtain ⟨z3, e3, i3⟩ := Fl.add_I i1 i2 h3
  have f1 := fop (P := Try.prog) e1
  have f2 := fop (P := Try.prog) e2
  have f3 := fop (P := Try.prog) e3
  have I3 := Lib.hid i3
  clear hx hy h1 h2 h3 e1 e2 e3 i1 i2 i3
  go_enter Try.func37, Try.ntmps37
  go_wp2
  go_ret
  exact ⟨⟨z3, rfl, I3.out⟩, (Grow.refl w).alloc _⟩

theorem dotOf2_calls (x y u v : Nat) (a b c d : Int) (w : World) (hx : Fl.IsI x a) (hy : Fl.IsI y b) (hu : Fl.IsI u c) (hv : Fl.IsI v d) (h1 : (a * c).natAbs ≤ 2 ^ 53) (h2 : (b * d).natAbs ≤ 2 ^ 53) (h3 : (a * c + b * d).natAbs ≤ 2 ^ 53) :
    Calls Try.prog 13 #[P2V x y, P2V u v] w fun e w' => (∃ z, e = .returned (.float .f64 z) ∧ Fl.IsI z (a * c + b * d)) ∧ Grow w w' := by
  have K := fun w => dot_calls x y u v a b c d w hx hy hu hv h1 h2 h3
  have K := Lib.hid K
  clear hx hy hu hv h1 h2 h3
  go_enter Try.func13, Try.ntmps13
  go_wp2
  refine wp_region_grow (fun i => if i = 1 then some (fun v _ => v = P2V x y) else if i = 3 then some (fun v' _ => v' = P2V u v) else if i = 4 then some (FI (a * c + b * d)) else none) (by kernel_rfl) (by kernel_rfl) ?_ ?_
  · intro i Φ h v
    (repeat' split at h) <;> cases h
    · exact fun _ _ h _ => h
    · exact fun _ _ h _ => h
    · exact FI.up
  repeat (first
    | (refine wpGrow_skip (by rfl) ?_; simp only [Act.put, List.setIfInBounds_toArray, List.set_cons_zero, List.set_cons_succ, Nat.reduceAdd])
    | (refine wpGrow_det' (by rfl) (by rfl) ?_; apply Exists.intro; refine ⟨fun w' hc hh => ?_, ?_⟩; (have hcell := grow_cell hc; clear hc hh; go_simp; rfl); simp only [Act.put, List.setIfInBounds_toArray, List.set_cons_zero, List.set_cons_succ, Nat.reduceAdd]))
  refine wpGrow_eff' (by rfl) (by rfl) (fun w' hc hh => ?_) (fun v w' hc hh hv => ?_)
  · clear hc hh
    go_simp
    go_at_call 36
    refine (vec2_calls _ _ _).mono ?_
    rintro e w2 ⟨rfl, hg⟩
    exact EffPost.mk hg rfl
  obtain rfl := hv
  clear hc hh w'
  simp only [Act.put, List.setIfInBounds_toArray, List.set_cons_zero, List.set_cons_succ, Nat.reduceAdd]
  repeat (first
    | (refine wpGrow_skip (by rfl) ?_; simp only [Act.put, List.setIfInBounds_toArray, List.set_cons_zero, List.set_cons_succ, Nat.reduceAdd])
    | (refine wpGrow_det' (by rfl) (by rfl) ?_; apply Exists.intro; refine ⟨fun w' hc hh => ?_, ?_⟩; (have hcell := grow_cell hc; clear hc hh; go_simp; rfl); simp only [Act.put, List.setIfInBounds_toArray, List.set_cons_zero, List.set_cons_succ, Nat.reduceAdd]))
  refine wpGrow_eff' (by rfl) (by rfl) (fun w' hc hh => ?_) (fun v w' hc hh hv => ?_)
  · clear hc hh
    go_simp
    go_at_call 36
    refine (vec2_calls _ _ _).mono ?_
    rintro e w2 ⟨rfl, hg⟩
    exact EffPost.mk hg rfl
  obtain rfl := hv
  clear hc hh w'
  simp only [Act.put, List.setIfInBounds_toArray, List.set_cons_zero, List.set_cons_succ, Nat.reduceAdd]
  repeat (first
    | (refine wpGrow_skip (by rfl) ?_; simp only [Act.put, List.setIfInBounds_toArray, List.set_cons_zero, List.set_cons_succ, Nat.reduceAdd])
    | (refine wpGrow_det' (by rfl) (by rfl) ?_; apply Exists.intro; refine ⟨fun w' hc hh => ?_, ?_⟩; (have hcell := grow_cell hc; clear hc hh; go_simp; rfl); simp only [Act.put, List.setIfInBounds_toArray, List.set_cons_zero, List.set_cons_succ, Nat.reduceAdd]))
  refine wpGrow_eff' (by rfl) (by rfl) (fun w' hc hh => ?_) (fun v w' hc hh hv => ?_)
  · clear hc hh
    go_simp
    go_at_call 35
    refine (K.out _).mono ?_
    rintro e w2 ⟨⟨z, rfl, hz⟩, hg⟩
    exact EffPost.mk hg ⟨z, rfl, hz⟩
  obtain ⟨z, rfl, hz⟩ := hv
  have HZ := Lib.hid hz; clear hz
  clear hc hh w'
  simp only [Act.put, List.setIfInBounds_toArray, List.set_cons_zero, List.set_cons_succ, Nat.reduceAdd]
  repeat (first
    | (refine wpGrow_skip (by rfl) ?_; simp only [Act.put, List.setIfInBounds_toArray, List.set_cons_zero, List.set_cons_succ, Nat.reduceAdd])
    | (refine wpGrow_det' (by rfl) (by rfl) ?_; apply Exists.intro; refine ⟨fun w' hc hh => ?_, ?_⟩; (have hcell := grow_cell hc; clear hc hh; go_simp; rfl); simp only [Act.put, List.setIfInBounds_toArray, List.set_cons_zero, List.set_cons_succ, Nat.reduceAdd]))
  refine wpGrow_nil ?_
  intro w1 hg hh
  go_wp2
  go_ret
  exact ⟨⟨z, rfl, HZ.out⟩, (((Grow.refl w).alloc _).alloc _).trans hg⟩

theorem square2_calls (x y : Nat) (a b : Int) (w : World) (hx : Fl.IsI x a) (hy : Fl.IsI y b) (h1 : (a * a).natAbs ≤ 2 ^ 53) (h2 : (b * b).natAbs ≤ 2 ^ 53) (h3 : (a * a + b * b).natAbs ≤ 2 ^ 53) :
    Calls Try.prog 14 #[P2V x y] w fun e w' => (∃ z, e = .returned (.float .f64 z) ∧ Fl.IsI z (a * a + b * b)) ∧ Grow w w' := by
  have K := fun w => norm2_calls x y a b w hx hy h1 h2 h3
  have K := Lib.hid K
  clear hx hy h1 h2 h3
  go_enter Try.func14, Try.ntmps14
  go_wp2_with (go_at_call 36; refine (vec2_calls _ _ _).mono ?_; rintro e w1 ⟨rfl, hg1⟩)
  refine (K.out _).mono ?_; rintro e w2 ⟨⟨z, rfl, hz⟩, hg2⟩
  have HZ := Lib.hid hz; clear hz
  go_wp2
  go_ret
  exact ⟨⟨z, rfl, HZ.out⟩, (((Grow.refl w).alloc _).trans hg1).trans hg2⟩
end Go.Proofs.Ytincapjbhbmeiaa
