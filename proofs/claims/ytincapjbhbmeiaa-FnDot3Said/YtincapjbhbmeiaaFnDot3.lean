import Derived.Test.YtincapjbhbmeiaaDot3
namespace Go.Proofs.Ytincapjbhbmeiaa
open Go.ChangeShapes Go.WideShapes Go.ChangeAt Go.RowKit Go.GrowR
set_option linter.unusedVariables false
set_option linter.unusedSimpArgs false
set_option maxHeartbeats 2000000 in
theorem fnDot3_calls (x y z u v t : Nat) (w : World) : Calls Try.prog 4 #[P3V x y z, P3V u v t] w fun e w' => e = .returned (.bool true) ∧ Grow w w' := by
  cases hb : [(x, y, z), (u, v, t)].all p3B with
  | false =>
    have HB := Lib.hid hb; clear hb
    go_enter Try.func4, Try.ntmps4
    go_wp2_with (go_at_call 15; refine (whole3_calls _ 0 _ [(x, y, z), (u, v, t)] _ (p3cells_2 _ _ _ _ _ _ _ _ (by go_simp) (by go_simp) (by go_simp) (by go_simp) (by go_simp) (by go_simp)) (by simp)).mono ?_; rintro e wa ⟨rfl, hga⟩; rw [HB.out])
    go_ret
    exact ⟨rfl, ((((Grow.refl w).alloc _).alloc _).alloc _).trans hga⟩
  | true =>
    have HB := Lib.hid hb
    simp only [List.all_cons, List.all_nil, Bool.and_true, Bool.and_eq_true] at hb
    obtain ⟨a, b, c, ia, a1, a2, ib, b1, b2, ic, c1, c2⟩ := p3B_true hb.1
    obtain ⟨p, q, r, ip, p1, p2, iq, q1, q2, ir, r1, r2⟩ := p3B_true hb.2
    clear hb
    have m0 := mul_bound a1 a2 p1 p2
    have n0 := mul_bound a1 a2 a1 a2
    have m1 := mul_bound b1 b2 q1 q2
    have n1 := mul_bound b1 b2 b1 b2
    have m2 := mul_bound c1 c2 r1 r2
    have n2 := mul_bound c1 c2 c1 c2
    have K1 := Lib.hid (fun w => dotOf3_calls x y z u v t a b c p q r w ia ib ic ip iq ir (by omega) (by omega) (by omega) (by omega) (by omega))
    have K2 := Lib.hid (fun w => square3_calls x y z a b c w ia ib ic (by omega) (by omega) (by omega) (by omega) (by omega))
    have ca := cvI ia (by omega) (by omega)
    have cb := cvI ib (by omega) (by omega)
    have cc := cvI ic (by omega) (by omega)
    have cp := cvI ip (by omega) (by omega)
    have cq := cvI iq (by omega) (by omega)
    have cr := cvI ir (by omega) (by omega)
    have w0 := wrap_of (n := a * p) (by omega) (by omega)
    have w1 := wrap_of (n := b * q) (by omega) (by omega)
    have w2 := wrap_of (n := c * r) (by omega) (by omega)
    have w3 := wrap_of (n := a * p + b * q) (by omega) (by omega)
    have w4 := wrap_of (n := a * p + b * q + c * r) (by omega) (by omega)
    have w5 := wrap_of (n := a * a) (by omega) (by omega)
    have w6 := wrap_of (n := b * b) (by omega) (by omega)
    have w7 := wrap_of (n := c * c) (by omega) (by omega)
    have w8 := wrap_of (n := a * a + b * b) (by omega) (by omega)
    have w9 := wrap_of (n := a * a + b * b + c * c) (by omega) (by omega)
    have O1 := Lib.hid (Fl.ofInt_I (a * p + b * q + c * r) (by omega))
    have O2 := Lib.hid (Fl.ofInt_I (a * a + b * b + c * c) (by omega))
    clear m0 n0 m1 n1 m2 n2 ia a1 a2 ib b1 b2 ic c1 c2 ip p1 p2 iq q1 q2 ir r1 r2
    go_enter Try.func4, Try.ntmps4
    go_wp2_with (go_at_call 15; refine (whole3_calls _ 0 _ [(x, y, z), (u, v, t)] _ (p3cells_2 _ _ _ _ _ _ _ _ (by go_simp) (by go_simp) (by go_simp) (by go_simp) (by go_simp) (by go_simp)) (by simp)).mono ?_; rintro e wa ⟨rfl, hga⟩; rw [HB.out])
    have k0 : wa.cell? ⟨w.heap.size, 0, none⟩ = some (.float .f64 x) := up_cell (by go_simp) hga
    have k1 : wa.cell? ⟨w.heap.size, 1, none⟩ = some (.float .f64 y) := up_cell (by go_simp) hga
    have k2 : wa.cell? ⟨w.heap.size, 2, none⟩ = some (.float .f64 z) := up_cell (by go_simp) hga
    have k3 : wa.cell? ⟨w.heap.size + 1, 0, none⟩ = some (.float .f64 u) := up_cell (by go_simp) hga
    have k4 : wa.cell? ⟨w.heap.size + 1, 1, none⟩ = some (.float .f64 v) := up_cell (by go_simp) hga
    have k5 : wa.cell? ⟨w.heap.size + 1, 2, none⟩ = some (.float .f64 t) := up_cell (by go_simp) hga
    refine wp_region_grow (fun i => none) (by kernel_rfl) (by kernel_rfl) ?_ ?_
    · intro i Φ h lo hi v
      cases h
    repeat (first
      | (refine wpGrow_skip (by rfl) ?_; simp only [Act.put, List.setIfInBounds_toArray, List.set_cons_zero, List.set_cons_succ, Nat.reduceAdd])
      | (refine wpGrow_det' (by rfl) (by rfl) ?_; apply Exists.intro; refine ⟨fun w' hc hh => ?_, ?_⟩; (have hcell := grow_cell hc; have e0 := up_cell k0 hc; have e1 := up_cell k1 hc; have e2 := up_cell k2 hc; have e3 := up_cell k3 hc; have e4 := up_cell k4 hc; have e5 := up_cell k5 hc; clear hc hh; go_simp; rfl); simp only [Act.put, List.setIfInBounds_toArray, List.set_cons_zero, List.set_cons_succ, Nat.reduceAdd]))
    refine wpGrow_nil ?_
    intro w1 hg hh
    have e0 := up_cell k0 hg
    have e1 := up_cell k1 hg
    have e2 := up_cell k2 hg
    have e3 := up_cell k3 hg
    have e4 := up_cell k4 hg
    have e5 := up_cell k5 hg
    go_wp2_with fail
    refine (K1.out _).mono ?_; rintro e wb ⟨⟨z, rfl, hz⟩, hgb⟩
    have q0 := up_cell e0 hgb
    have q1 := up_cell e1 hgb
    have q2 := up_cell e2 hgb
    have b1 := Fl.eqB hz O1.out
    clear hz e0 k0 e1 k1 e2 k2 e3 k3 e4 k4 e5 k5
    go_wp2_with fail
    refine (K2.out _).mono ?_; rintro e wc ⟨⟨z2, rfl, hz2⟩, hgc⟩
    have b2 := Fl.eqB hz2 O2.out
    clear hz2 q0 q1 q2
    go_wp2
    go_ret
    exact ⟨rfl, ((((((Grow.refl w).alloc _).alloc _).alloc _).trans hga).trans hg).trans (hgb.trans hgc)⟩
end Go.Proofs.Ytincapjbhbmeiaa
