import Derived.Test.YtincapjbhbmeiaaDot2
import Derived.Laws.FloatArith
namespace Go.Proofs.Ytincapjbhbmeiaa
open Go.ChangeShapes Go.WideShapes Go.ChangeAt Go.RowKit Go.GrowR
set_option linter.unusedVariables false

theorem p2B_true {x y : Nat} (h : p2B (x, y) = true) : ∃ a b : Int, Fl.IsI x a ∧ Fl.IsI y b ∧ -1048576 ≤ a ∧ a ≤ 1048576 ∧ -1048576 ≤ b ∧ b ≤ 1048576 := by
  unfold p2B at h
  simp only [Bool.and_eq_true] at h
  obtain ⟨a, ha, h1, h2⟩ := Fl.wholeB_true h.1
  obtain ⟨b, hb, h3, h4⟩ := Fl.wholeB_true h.2
  exact ⟨a, b, ha, hb, h1, h2, h3, h4⟩

theorem p2cells_two (w : World) (b : Nat) (x y u v : Nat) (h0 : w.cell? ⟨b, 0, none⟩ = some (.float .f64 x)) (h1 : w.cell? ⟨b, 1, none⟩ = some (.float .f64 y)) (h2 : w.cell? ⟨b, 2, none⟩ = some (.float .f64 u)) (h3 : w.cell? ⟨b, 3, none⟩ = some (.float .f64 v)) :
    P2Cells w b 0 [(x, y), (u, v)] := by
  intro i p q hi
  match i, hi with
  | 0, hi => obtain ⟨rfl, rfl⟩ := Prod.mk.inj (Option.some.inj hi); exact ⟨h0, h1⟩
  | 1, hi => obtain ⟨rfl, rfl⟩ := Prod.mk.inj (Option.some.inj hi); exact ⟨h2, h3⟩
  | i + 2, hi => simp at hi

theorem _root_.Fl.eqB {x y : Nat} {n : Int} (hx : Fl.IsI x n) (hy : Fl.IsI y n) : (FloatKind.f64.format.order x y == some .eq) = true := by rw [Fl.eq_V hx hy]; simp

theorem mul_bound {a b m n : Int} (h1 : -m ≤ a) (h2 : a ≤ m) (h3 : -n ≤ b) (h4 : b ≤ n) : -(m * n) ≤ a * b ∧ a * b ≤ m * n := by
  have hm : 0 ≤ m := by omega
  have hn : 0 ≤ n := by omega
  have h5 : (a * b).natAbs ≤ (m * n).natAbs := by
    rw [Int.natAbs_mul, Int.natAbs_mul]
    exact Nat.mul_le_mul (by omega) (by omega)
  have h6 : 0 ≤ m * n := Int.mul_nonneg hm hn
  omega

theorem wrap_of {n : Int} (h1 : -9223372036854775808 ≤ n) (h2 : n ≤ 9223372036854775807) : IntKind.i64.wrap n = n := IntWalk.i64_in n ⟨h1, h2⟩

theorem cvI {x : Nat} {n : Int} (h : Fl.IsI x n) (h1 : -9223372036854775808 ≤ n) (h2 : n ≤ 9223372036854775807) : ∀ w, (convert 22 3 (.float .f64 x)).run Try.prog w = .ok (.int .i64 n) w := fun w =>
  run_convert_float_int w 22 3 .f64 .i64 x n (by kernel_rfl) Try.underlying3 (Fl.floatToInt_I h .i64 ⟨h1, h2⟩)

set_option maxHeartbeats 1000000 in
theorem fnDot2_calls (x y u v : Nat) (w : World) : Calls Try.prog 3 #[P2V x y, P2V u v] w fun e w' => e = .returned (.bool true) ∧ Grow w w' := by
  cases hb : [(x, y), (u, v)].all p2B with
  | false =>
    have HB := Lib.hid hb; clear hb
    go_enter Try.func3, Try.ntmps3
    go_wp2_with (go_at_call 12; refine (whole2_calls _ 0 _ [(x, y), (u, v)] _ (p2cells_two _ _ _ _ _ _ (by go_simp) (by go_simp) (by go_simp) (by go_simp)) (by simp)).mono ?_; rintro e w1 ⟨rfl, hg⟩; rw [HB.out])
    go_ret
    exact ⟨rfl, ((((Grow.refl w).alloc _).alloc _).alloc _).trans hg⟩
  | true =>
    have HB := Lib.hid hb
    simp only [List.all_cons, List.all_nil, Bool.and_true, Bool.and_eq_true] at hb
    obtain ⟨a, b, ia, ib, a1, a2, b1, b2⟩ := p2B_true hb.1
    obtain ⟨c, d, ic, id, c1, c2, d1, d2⟩ := p2B_true hb.2
    clear hb
    have m1 := mul_bound a1 a2 c1 c2
    have m2 := mul_bound b1 b2 d1 d2
    have m3 := mul_bound a1 a2 a1 a2
    have m4 := mul_bound b1 b2 b1 b2
    have K1 := Lib.hid (fun w => dotOf2_calls x y u v a b c d w ia ib ic id (by omega) (by omega) (by omega))
    have K2 := Lib.hid (fun w => square2_calls x y a b w ia ib (by omega) (by omega) (by omega))
    have cx := cvI ia (by omega) (by omega)
    have cy := cvI ib (by omega) (by omega)
    have cu := cvI ic (by omega) (by omega)
    have cv := cvI id (by omega) (by omega)
    have w1 := wrap_of (n := a * c) (by omega) (by omega)
    have w2 := wrap_of (n := b * d) (by omega) (by omega)
    have w3 := wrap_of (n := a * c + b * d) (by omega) (by omega)
    have w4 := wrap_of (n := a * a) (by omega) (by omega)
    have w5 := wrap_of (n := b * b) (by omega) (by omega)
    have w6 := wrap_of (n := a * a + b * b) (by omega) (by omega)
    have O1 := Lib.hid (Fl.ofInt_I (a * c + b * d) (by omega))
    have O2 := Lib.hid (Fl.ofInt_I (a * a + b * b) (by omega))
    clear m1 m2 m3 m4 ia ib ic id a1 a2 b1 b2 c1 c2 d1 d2
    go_enter Try.func3, Try.ntmps3
    go_wp2_with (go_at_call 12; refine (whole2_calls _ 0 _ [(x, y), (u, v)] _ (p2cells_two _ _ _ _ _ _ (by go_simp) (by go_simp) (by go_simp) (by go_simp)) (by simp)).mono ?_; rintro e wa ⟨rfl, hga⟩; rw [HB.out])
    have k0 : wa.cell? ⟨w.heap.size, 0, none⟩ = some (.float .f64 x) := up_cell (by go_simp) hga
    have k1 : wa.cell? ⟨w.heap.size, 1, none⟩ = some (.float .f64 y) := up_cell (by go_simp) hga
    have k2 : wa.cell? ⟨w.heap.size + 1, 0, none⟩ = some (.float .f64 u) := up_cell (by go_simp) hga
    have k3 : wa.cell? ⟨w.heap.size + 1, 1, none⟩ = some (.float .f64 v) := up_cell (by go_simp) hga
    refine wp_region_grow (fun i => none) (by kernel_rfl) (by kernel_rfl) ?_ ?_
    · intro i Φ h v
      cases h
    repeat (first
      | (refine wpGrow_skip (by rfl) ?_; simp only [Act.put, List.setIfInBounds_toArray, List.set_cons_zero, List.set_cons_succ, Nat.reduceAdd])
      | (refine wpGrow_det' (by rfl) (by rfl) ?_; apply Exists.intro; refine ⟨fun w' hc hh => ?_, ?_⟩; (have hcell := grow_cell hc; have e0 := up_cell k0 hc; have e1 := up_cell k1 hc; have e2 := up_cell k2 hc; have e3 := up_cell k3 hc; clear hc hh; go_simp; rfl); simp only [Act.put, List.setIfInBounds_toArray, List.set_cons_zero, List.set_cons_succ, Nat.reduceAdd]))
    refine wpGrow_nil ?_
    intro w1 hg hh
    have e0 := up_cell k0 hg
    have e1 := up_cell k1 hg
    have e2 := up_cell k2 hg
    have e3 := up_cell k3 hg
    go_wp2_with fail
    refine (K1.out _).mono ?_; rintro e wb ⟨⟨z, rfl, hz⟩, hgb⟩
    have q0 := up_cell e0 hgb
    have q1 := up_cell e1 hgb
    have b1 := Fl.eqB hz O1.out
    clear hz e0 e1 e2 e3 k0 k1 k2 k3
    go_wp2_with fail
    refine (K2.out _).mono ?_; rintro e wc ⟨⟨z2, rfl, hz2⟩, hgc⟩
    have b2 := Fl.eqB hz2 O2.out
    clear hz2 q0 q1
    go_wp2
    go_ret
    exact ⟨rfl, ((((((Grow.refl w).alloc _).alloc _).alloc _).trans hga).trans hg).trans (hgb.trans hgc)⟩
end Go.Proofs.Ytincapjbhbmeiaa
