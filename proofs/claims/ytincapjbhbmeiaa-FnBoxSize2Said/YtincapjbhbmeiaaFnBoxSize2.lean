import Derived.Test.YtincapjbhbmeiaaBox2
import Derived.Test.YtincapjbhbmeiaaFlH
namespace Go.Proofs.Ytincapjbhbmeiaa
open Go.ChangeShapes Go.WideShapes Go.ChangeAt Go.RowKit Go.GrowR
set_option linter.unusedVariables false
set_option linter.unusedSimpArgs false
set_option maxHeartbeats 4000000 in
theorem fnBoxSize2_calls (x y u v : Nat) (w : World) : Calls Try.prog 8 #[P2V x y, P2V u v] w fun e w' => e = .returned (.bool true) ∧ Grow w w' := by
  cases hb : [(x, y), (u, v)].all p2B with
  | false =>
    have HB := Lib.hid hb; clear hb
    go_enter Try.func8, Try.ntmps8
    go_wp2_with (go_at_call 12; refine (whole2_calls _ 0 _ [(x, y), (u, v)] _ (p2cells_2 _ _ _ _ _ _ (by go_simp) (by go_simp) (by go_simp) (by go_simp)) (by simp)).mono ?_; rintro e wa ⟨rfl, hga⟩; rw [HB.out])
    go_ret
    exact ⟨rfl, ((((Grow.refl w).alloc _).alloc _).alloc _).trans hga⟩
  | true =>
    have HB := Lib.hid hb
    simp only [List.all_cons, List.all_nil, Bool.and_true, Bool.and_eq_true] at hb
    obtain ⟨a, b, ia, a1, a2, ib, b1, b2⟩ := p2B_true hb.1
    obtain ⟨p, q, ip, p1, p2, iq, q1, q2⟩ := p2B_true hb.2
    clear hb
    obtain ⟨z0, h0, iz0⟩ := Fl.sub_I ip ia (by omega)
    obtain ⟨s0, g0, is0⟩ := Fl.add_I ia ip (by omega)
    obtain ⟨ch0, hc0, vc0⟩ := Fl.half_I is0 (by omega)
    obtain ⟨qu0, hq0, vq0⟩ := Fl.halved_I is0 (by omega)
    have eqz0 := Fl.eqB iz0 iz0
    have eqc0 := Fl.eqV vc0 vq0
    have f10 := fop (P := Try.prog) h0
    have f20 := fop (P := Try.prog) g0
    have f30 := fop (P := Try.prog) hq0
    have le0 : (FloatKind.f64.format.order u x == some .lt || FloatKind.f64.format.order u x == some .eq) = (FloatKind.f64.format.order x u == some .gt || FloatKind.f64.format.order x u == some .eq) := by rw [Fl.le_V ip ia, Fl.ge_V ia ip]
    obtain ⟨z1, h1, iz1⟩ := Fl.sub_I iq ib (by omega)
    obtain ⟨s1, g1, is1⟩ := Fl.add_I ib iq (by omega)
    obtain ⟨ch1, hc1, vc1⟩ := Fl.half_I is1 (by omega)
    obtain ⟨qu1, hq1, vq1⟩ := Fl.halved_I is1 (by omega)
    have eqz1 := Fl.eqB iz1 iz1
    have eqc1 := Fl.eqV vc1 vq1
    have f11 := fop (P := Try.prog) h1
    have f21 := fop (P := Try.prog) g1
    have f31 := fop (P := Try.prog) hq1
    have le1 : (FloatKind.f64.format.order v y == some .lt || FloatKind.f64.format.order v y == some .eq) = (FloatKind.f64.format.order y v == some .gt || FloatKind.f64.format.order y v == some .eq) := by rw [Fl.le_V iq ib, Fl.ge_V ib iq]
    have K1 := Lib.hid (fun w => size2_calls x y u v z0 z1 w h0 h1)
    have K2 := Lib.hid (fun w => center2_calls x y u v s0 s1 ch0 ch1 w g0 hc0 g1 hc1)
    have K3 := Lib.hid (fun w => empty2_calls x y u v w)
    clear h0 iz0 g0 is0 hc0 vc0 hq0 vq0 h1 iz1 g1 is1 hc1 vc1 hq1 vq1 ia a1 a2 ib b1 b2 ip p1 p2 iq q1 q2
    cases t0 : (FloatKind.f64.format.order x u == some .gt || FloatKind.f64.format.order x u == some .eq) with
    | true =>
      rw [t0] at le0
      clear le1
      have R : Hid (((FloatKind.f64.format.order x u == some .gt || FloatKind.f64.format.order x u == some .eq) || (FloatKind.f64.format.order y v == some .gt || FloatKind.f64.format.order y v == some .eq)) = true) := by show _ = _; simp [t0]
      go_enter Try.func8, Try.ntmps8
      go_wp2_with (go_at_call 12; refine (whole2_calls _ 0 _ [(x, y), (u, v)] _ (p2cells_2 _ _ _ _ _ _ (by go_simp) (by go_simp) (by go_simp) (by go_simp)) (by simp)).mono ?_; rintro e wa ⟨rfl, hga⟩; rw [HB.out]; have k0 : wa.cell? ⟨w.heap.size, 0, none⟩ = some (.float .f64 x) := up_cell (by go_simp) hga; have k1 : wa.cell? ⟨w.heap.size, 1, none⟩ = some (.float .f64 y) := up_cell (by go_simp) hga; have k2 : wa.cell? ⟨w.heap.size + 1, 0, none⟩ = some (.float .f64 u) := up_cell (by go_simp) hga; have k3 : wa.cell? ⟨w.heap.size + 1, 1, none⟩ = some (.float .f64 v) := up_cell (by go_simp) hga)
      have hsz : w.heap.size + 1 + 1 + 1 ≤ wa.heap.size := by simpa using hga.size
      refine (box2_calls _ _ _ _ _).mono ?_; rintro e wb ⟨rfl, hgb⟩
      have e0 := up_cell k0 hgb
      have e1 := up_cell k1 hgb
      have e2 := up_cell k2 hgb
      have e3 := up_cell k3 hgb
      clear k0 k1 k2 k3
      have hsz2 := hgb.size
      go_wp2_with fail
      refine wp_region_grow_tail 6 (fun i => if i = 1 then some (fun _ _ => (fun V _ => V = P2V z0 z1)) else if i = 3 then some (fun _ _ => (fun V _ => V = P2V ch0 ch1)) else if i = 4 then some (FreshP 2 (wb.heap.size + 1)) else if i = 5 then some (FreshP 2 (wb.heap.size + 1)) else none) (by kernel_rfl) (by kernel_rfl) ?_ ?_
      · intro i Φ h lo hi v
        (repeat' split at h) <;> cases h
        · exact fun _ _ h _ => h
        · exact fun _ _ h _ => h
        · exact FreshP.up
        · exact FreshP.up
      simp only [List.take_succ_cons, List.take_zero, List.drop_succ_cons, List.drop_zero]
      repeat (first
        | (refine wpGrow_skip (by rfl) ?_; simp only [Act.put, List.setIfInBounds_toArray, List.set_cons_zero, List.set_cons_succ, Nat.reduceAdd])
        | (refine wpGrow_det' (by rfl) (by rfl) ?_; apply Exists.intro; refine ⟨fun w' hc hh => ?_, ?_⟩; (have hcell := grow_cell hc; clear hc hh; go_simp; rfl); simp only [Act.put, List.setIfInBounds_toArray, List.set_cons_zero, List.set_cons_succ, Nat.reduceAdd]))
      refine wpGrow_eff' (by rfl) (by rfl) (fun w' hc hh => ?_) (fun v lo hi w' hap hc hh hv => ?_)
      · clear hc hh
        go_simp
        go_at_call 25
        refine (K1.out _).mono ?_
        rintro e w2 ⟨rfl, hg⟩
        exact EffPost.mk hg rfl
      obtain rfl := hv
      clear hc hh hap w'
      simp only [Act.put, List.setIfInBounds_toArray, List.set_cons_zero, List.set_cons_succ, Nat.reduceAdd]
      repeat (first
        | (refine wpGrow_skip (by rfl) ?_; simp only [Act.put, List.setIfInBounds_toArray, List.set_cons_zero, List.set_cons_succ, Nat.reduceAdd])
        | (refine wpGrow_det' (by rfl) (by rfl) ?_; apply Exists.intro; refine ⟨fun w' hc hh => ?_, ?_⟩; (have hcell := grow_cell hc; clear hc hh; go_simp; rfl); simp only [Act.put, List.setIfInBounds_toArray, List.set_cons_zero, List.set_cons_succ, Nat.reduceAdd]))
      refine wpGrow_eff' (by rfl) (by rfl) (fun w' hc hh => ?_) (fun v lo hi w' hap hc hh hv => ?_)
      · clear hc hh
        go_simp
        go_at_call 26
        refine (K2.out _).mono ?_
        rintro e w2 ⟨rfl, hg⟩
        exact EffPost.mk hg rfl
      obtain rfl := hv
      clear hc hh hap w'
      simp only [Act.put, List.setIfInBounds_toArray, List.set_cons_zero, List.set_cons_succ, Nat.reduceAdd]
      repeat (first
        | (refine wpGrow_skip (by rfl) ?_; simp only [Act.put, List.setIfInBounds_toArray, List.set_cons_zero, List.set_cons_succ, Nat.reduceAdd])
        | (refine wpGrow_det' (by rfl) (by rfl) ?_; apply Exists.intro; refine ⟨fun w' hc hh => ?_, ?_⟩; (have hcell := grow_cell hc; clear hc hh; go_simp; rfl); simp only [Act.put, List.setIfInBounds_toArray, List.set_cons_zero, List.set_cons_succ, Nat.reduceAdd]))
      refine wpGrow_eff' (by rfl) (by rfl) (fun w' hc hh => ?_) (fun v lo hi w' hap hc hh hv => ?_)
      · have hs : wb.heap.size + 1 ≤ w'.heap.size := by simpa using hc.size
        clear hc hh
        go_simp
        exact EffVal.mk ((Grow.refl _).alloc _) ⟨_, rfl, hs, Nat.le_refl _, by simp, all2 ⟨by go_simp, by go_simp⟩ ⟨by go_simp, by go_simp⟩⟩
      obtain ⟨b1, rfl, m1, l1, u1, -⟩ := hv
      clear hc hh hap w'
      simp only [Act.put, List.setIfInBounds_toArray, List.set_cons_zero, List.set_cons_succ, Nat.reduceAdd]
      repeat (first
        | (refine wpGrow_skip (by rfl) ?_; simp only [Act.put, List.setIfInBounds_toArray, List.set_cons_zero, List.set_cons_succ, Nat.reduceAdd])
        | (refine wpGrow_det' (by rfl) (by rfl) ?_; apply Exists.intro; refine ⟨fun w' hc hh => ?_, ?_⟩; (have hcell := grow_cell hc; clear hc hh; go_simp; rfl); simp only [Act.put, List.setIfInBounds_toArray, List.set_cons_zero, List.set_cons_succ, Nat.reduceAdd]))
      refine wpGrow_eff' (by rfl) (by rfl) (fun w' hc hh => ?_) (fun v lo hi w' hap hc hh hv => ?_)
      · have hs : wb.heap.size + 1 ≤ w'.heap.size := by simpa using hc.size
        clear hc hh
        go_simp
        exact EffVal.mk ((Grow.refl _).alloc _) ⟨_, rfl, hs, Nat.le_refl _, by simp, all2 ⟨by go_simp, by go_simp⟩ ⟨by go_simp, by go_simp⟩⟩
      obtain ⟨b2, rfl, m2, l2, u2, -⟩ := hv
      have hne : b1 ≠ b2 := by have := hap 4 _ _ rfl; omega
      clear hc hh hap w'
      simp only [Act.put, List.setIfInBounds_toArray, List.set_cons_zero, List.set_cons_succ, Nat.reduceAdd]
      repeat (first
        | (refine wpGrow_skip (by rfl) ?_; simp only [Act.put, List.setIfInBounds_toArray, List.set_cons_zero, List.set_cons_succ, Nat.reduceAdd])
        | (refine wpGrow_det' (by rfl) (by rfl) ?_; apply Exists.intro; refine ⟨fun w' hc hh => ?_, ?_⟩; (have hcell := grow_cell hc; clear hc hh; go_simp; rfl); simp only [Act.put, List.setIfInBounds_toArray, List.set_cons_zero, List.set_cons_succ, Nat.reduceAdd]))
      refine wpGrow_nil ?_
      intro w1 hg hh
      obtain ⟨b1', q1, -, -, -, n1⟩ := (hh 4).1
      obtain ⟨b2', q2, -, -, -, n2⟩ := (hh 5).1
      cases q1; cases q2
      obtain ⟨p10, r10⟩ := n1 0 (by omega)
      obtain ⟨p11, r11⟩ := n1 1 (by omega)
      obtain ⟨p20, r20⟩ := n2 0 (by omega)
      obtain ⟨p21, r21⟩ := n2 1 (by omega)
      have g0 := up_cell e0 (((Grow.refl wb).alloc _).trans hg)
      have g1 := up_cell e1 (((Grow.refl wb).alloc _).trans hg)
      have g2 := up_cell e2 (((Grow.refl wb).alloc _).trans hg)
      have g3 := up_cell e3 (((Grow.refl wb).alloc _).trans hg)
      have k0 : w1.cell? ⟨wb.heap.size, 0, none⟩ = some (.float .f64 x) := up_cell (by go_simp) hg
      have k1 : w1.cell? ⟨wb.heap.size, 1, none⟩ = some (.float .f64 y) := up_cell (by go_simp) hg
      have k2 : w1.cell? ⟨wb.heap.size, 2, none⟩ = some (.float .f64 u) := up_cell (by go_simp) hg
      have k3 : w1.cell? ⟨wb.heap.size, 3, none⟩ = some (.float .f64 v) := up_cell (by go_simp) hg
      have ne1 : ¬ b1 = b2 := hne
      have ne2 : ¬ b2 = b1 := fun h => hne h.symm
      have nx1 : ¬ b1 = w.heap.size := by omega
      have ny1 : ¬ b1 = w.heap.size + 1 := by omega
      have nz1 : ¬ b1 = wb.heap.size := by omega
      have nx2 : ¬ b2 = w.heap.size := by omega
      have ny2 : ¬ b2 = w.heap.size + 1 := by omega
      have nz2 : ¬ b2 = wb.heap.size := by omega
      have G : Grow w w1 := (((((((Grow.refl w).alloc _).alloc _).alloc _).trans hga).trans hgb).alloc _).trans hg
      have lb1 : w.heap.size ≤ b1 := by omega
      have lb2 : w.heap.size ≤ b2 := by omega
      clear hh hg n1 n2 hne e0 e1 e2 e3 m1 m2 l1 l2 u1 u2 hsz hsz2 hga hgb
      go_wp2_with fail
      refine (K3.out _).mono ?_; rintro e wc ⟨rfl, hgc⟩
      rw [R.out]
      have v0 : wc.cell? ⟨w.heap.size, 0, none⟩ = some (.float .f64 x) := up_cell (by go_simp) hgc
      have v1 : wc.cell? ⟨w.heap.size, 1, none⟩ = some (.float .f64 y) := up_cell (by go_simp) hgc
      have v2 : wc.cell? ⟨w.heap.size + 1, 0, none⟩ = some (.float .f64 u) := up_cell (by go_simp) hgc
      have v3 : wc.cell? ⟨w.heap.size + 1, 1, none⟩ = some (.float .f64 v) := up_cell (by go_simp) hgc
      have y10 : wc.cell? ⟨b1, 0, none⟩ = some (.float .f64 z0) := up_cell (by go_simp) hgc
      have y11 : wc.cell? ⟨b1, 1, none⟩ = some (.float .f64 z1) := up_cell (by go_simp) hgc
      have y20 : wc.cell? ⟨b2, 0, none⟩ = some (.float .f64 ch0) := up_cell (by go_simp) hgc
      have y21 : wc.cell? ⟨b2, 1, none⟩ = some (.float .f64 ch1) := up_cell (by go_simp) hgc
      have GG := ((((G.setCell (p := ⟨b1, 0, none⟩) lb1 _).setCell (p := ⟨b1, 1, none⟩) lb1 _).setCell (p := ⟨b2, 0, none⟩) lb2 _).setCell (p := ⟨b2, 1, none⟩) lb2 _).trans hgc
      clear G hgc g0 k0 g1 k1 g2 k2 g3 k3 p10 p20 r10 r20 p11 p21 r11 r21
      go_wp2
      go_ret
      exact ⟨rfl, GG⟩
    | false =>
    cases t1 : (FloatKind.f64.format.order y v == some .gt || FloatKind.f64.format.order y v == some .eq) with
    | true =>
      rw [t0] at le0
      rw [t1] at le1
      have R : Hid (((FloatKind.f64.format.order x u == some .gt || FloatKind.f64.format.order x u == some .eq) || (FloatKind.f64.format.order y v == some .gt || FloatKind.f64.format.order y v == some .eq)) = true) := by show _ = _; simp [t0, t1]
      go_enter Try.func8, Try.ntmps8
      go_wp2_with (go_at_call 12; refine (whole2_calls _ 0 _ [(x, y), (u, v)] _ (p2cells_2 _ _ _ _ _ _ (by go_simp) (by go_simp) (by go_simp) (by go_simp)) (by simp)).mono ?_; rintro e wa ⟨rfl, hga⟩; rw [HB.out]; have k0 : wa.cell? ⟨w.heap.size, 0, none⟩ = some (.float .f64 x) := up_cell (by go_simp) hga; have k1 : wa.cell? ⟨w.heap.size, 1, none⟩ = some (.float .f64 y) := up_cell (by go_simp) hga; have k2 : wa.cell? ⟨w.heap.size + 1, 0, none⟩ = some (.float .f64 u) := up_cell (by go_simp) hga; have k3 : wa.cell? ⟨w.heap.size + 1, 1, none⟩ = some (.float .f64 v) := up_cell (by go_simp) hga)
      have hsz : w.heap.size + 1 + 1 + 1 ≤ wa.heap.size := by simpa using hga.size
      refine (box2_calls _ _ _ _ _).mono ?_; rintro e wb ⟨rfl, hgb⟩
      have e0 := up_cell k0 hgb
      have e1 := up_cell k1 hgb
      have e2 := up_cell k2 hgb
      have e3 := up_cell k3 hgb
      clear k0 k1 k2 k3
      have hsz2 := hgb.size
      go_wp2_with fail
      refine wp_region_grow_tail 6 (fun i => if i = 1 then some (fun _ _ => (fun V _ => V = P2V z0 z1)) else if i = 3 then some (fun _ _ => (fun V _ => V = P2V ch0 ch1)) else if i = 4 then some (FreshP 2 (wb.heap.size + 1)) else if i = 5 then some (FreshP 2 (wb.heap.size + 1)) else none) (by kernel_rfl) (by kernel_rfl) ?_ ?_
      · intro i Φ h lo hi v
        (repeat' split at h) <;> cases h
        · exact fun _ _ h _ => h
        · exact fun _ _ h _ => h
        · exact FreshP.up
        · exact FreshP.up
      simp only [List.take_succ_cons, List.take_zero, List.drop_succ_cons, List.drop_zero]
      repeat (first
        | (refine wpGrow_skip (by rfl) ?_; simp only [Act.put, List.setIfInBounds_toArray, List.set_cons_zero, List.set_cons_succ, Nat.reduceAdd])
        | (refine wpGrow_det' (by rfl) (by rfl) ?_; apply Exists.intro; refine ⟨fun w' hc hh => ?_, ?_⟩; (have hcell := grow_cell hc; clear hc hh; go_simp; rfl); simp only [Act.put, List.setIfInBounds_toArray, List.set_cons_zero, List.set_cons_succ, Nat.reduceAdd]))
      refine wpGrow_eff' (by rfl) (by rfl) (fun w' hc hh => ?_) (fun v lo hi w' hap hc hh hv => ?_)
      · clear hc hh
        go_simp
        go_at_call 25
        refine (K1.out _).mono ?_
        rintro e w2 ⟨rfl, hg⟩
        exact EffPost.mk hg rfl
      obtain rfl := hv
      clear hc hh hap w'
      simp only [Act.put, List.setIfInBounds_toArray, List.set_cons_zero, List.set_cons_succ, Nat.reduceAdd]
      repeat (first
        | (refine wpGrow_skip (by rfl) ?_; simp only [Act.put, List.setIfInBounds_toArray, List.set_cons_zero, List.set_cons_succ, Nat.reduceAdd])
        | (refine wpGrow_det' (by rfl) (by rfl) ?_; apply Exists.intro; refine ⟨fun w' hc hh => ?_, ?_⟩; (have hcell := grow_cell hc; clear hc hh; go_simp; rfl); simp only [Act.put, List.setIfInBounds_toArray, List.set_cons_zero, List.set_cons_succ, Nat.reduceAdd]))
      refine wpGrow_eff' (by rfl) (by rfl) (fun w' hc hh => ?_) (fun v lo hi w' hap hc hh hv => ?_)
      · clear hc hh
        go_simp
        go_at_call 26
        refine (K2.out _).mono ?_
        rintro e w2 ⟨rfl, hg⟩
        exact EffPost.mk hg rfl
      obtain rfl := hv
      clear hc hh hap w'
      simp only [Act.put, List.setIfInBounds_toArray, List.set_cons_zero, List.set_cons_succ, Nat.reduceAdd]
      repeat (first
        | (refine wpGrow_skip (by rfl) ?_; simp only [Act.put, List.setIfInBounds_toArray, List.set_cons_zero, List.set_cons_succ, Nat.reduceAdd])
        | (refine wpGrow_det' (by rfl) (by rfl) ?_; apply Exists.intro; refine ⟨fun w' hc hh => ?_, ?_⟩; (have hcell := grow_cell hc; clear hc hh; go_simp; rfl); simp only [Act.put, List.setIfInBounds_toArray, List.set_cons_zero, List.set_cons_succ, Nat.reduceAdd]))
      refine wpGrow_eff' (by rfl) (by rfl) (fun w' hc hh => ?_) (fun v lo hi w' hap hc hh hv => ?_)
      · have hs : wb.heap.size + 1 ≤ w'.heap.size := by simpa using hc.size
        clear hc hh
        go_simp
        exact EffVal.mk ((Grow.refl _).alloc _) ⟨_, rfl, hs, Nat.le_refl _, by simp, all2 ⟨by go_simp, by go_simp⟩ ⟨by go_simp, by go_simp⟩⟩
      obtain ⟨b1, rfl, m1, l1, u1, -⟩ := hv
      clear hc hh hap w'
      simp only [Act.put, List.setIfInBounds_toArray, List.set_cons_zero, List.set_cons_succ, Nat.reduceAdd]
      repeat (first
        | (refine wpGrow_skip (by rfl) ?_; simp only [Act.put, List.setIfInBounds_toArray, List.set_cons_zero, List.set_cons_succ, Nat.reduceAdd])
        | (refine wpGrow_det' (by rfl) (by rfl) ?_; apply Exists.intro; refine ⟨fun w' hc hh => ?_, ?_⟩; (have hcell := grow_cell hc; clear hc hh; go_simp; rfl); simp only [Act.put, List.setIfInBounds_toArray, List.set_cons_zero, List.set_cons_succ, Nat.reduceAdd]))
      refine wpGrow_eff' (by rfl) (by rfl) (fun w' hc hh => ?_) (fun v lo hi w' hap hc hh hv => ?_)
      · have hs : wb.heap.size + 1 ≤ w'.heap.size := by simpa using hc.size
        clear hc hh
        go_simp
        exact EffVal.mk ((Grow.refl _).alloc _) ⟨_, rfl, hs, Nat.le_refl _, by simp, all2 ⟨by go_simp, by go_simp⟩ ⟨by go_simp, by go_simp⟩⟩
      obtain ⟨b2, rfl, m2, l2, u2, -⟩ := hv
      have hne : b1 ≠ b2 := by have := hap 4 _ _ rfl; omega
      clear hc hh hap w'
      simp only [Act.put, List.setIfInBounds_toArray, List.set_cons_zero, List.set_cons_succ, Nat.reduceAdd]
      repeat (first
        | (refine wpGrow_skip (by rfl) ?_; simp only [Act.put, List.setIfInBounds_toArray, List.set_cons_zero, List.set_cons_succ, Nat.reduceAdd])
        | (refine wpGrow_det' (by rfl) (by rfl) ?_; apply Exists.intro; refine ⟨fun w' hc hh => ?_, ?_⟩; (have hcell := grow_cell hc; clear hc hh; go_simp; rfl); simp only [Act.put, List.setIfInBounds_toArray, List.set_cons_zero, List.set_cons_succ, Nat.reduceAdd]))
      refine wpGrow_nil ?_
      intro w1 hg hh
      obtain ⟨b1', q1, -, -, -, n1⟩ := (hh 4).1
      obtain ⟨b2', q2, -, -, -, n2⟩ := (hh 5).1
      cases q1; cases q2
      obtain ⟨p10, r10⟩ := n1 0 (by omega)
      obtain ⟨p11, r11⟩ := n1 1 (by omega)
      obtain ⟨p20, r20⟩ := n2 0 (by omega)
      obtain ⟨p21, r21⟩ := n2 1 (by omega)
      have g0 := up_cell e0 (((Grow.refl wb).alloc _).trans hg)
      have g1 := up_cell e1 (((Grow.refl wb).alloc _).trans hg)
      have g2 := up_cell e2 (((Grow.refl wb).alloc _).trans hg)
      have g3 := up_cell e3 (((Grow.refl wb).alloc _).trans hg)
      have k0 : w1.cell? ⟨wb.heap.size, 0, none⟩ = some (.float .f64 x) := up_cell (by go_simp) hg
      have k1 : w1.cell? ⟨wb.heap.size, 1, none⟩ = some (.float .f64 y) := up_cell (by go_simp) hg
      have k2 : w1.cell? ⟨wb.heap.size, 2, none⟩ = some (.float .f64 u) := up_cell (by go_simp) hg
      have k3 : w1.cell? ⟨wb.heap.size, 3, none⟩ = some (.float .f64 v) := up_cell (by go_simp) hg
      have ne1 : ¬ b1 = b2 := hne
      have ne2 : ¬ b2 = b1 := fun h => hne h.symm
      have nx1 : ¬ b1 = w.heap.size := by omega
      have ny1 : ¬ b1 = w.heap.size + 1 := by omega
      have nz1 : ¬ b1 = wb.heap.size := by omega
      have nx2 : ¬ b2 = w.heap.size := by omega
      have ny2 : ¬ b2 = w.heap.size + 1 := by omega
      have nz2 : ¬ b2 = wb.heap.size := by omega
      have G : Grow w w1 := (((((((Grow.refl w).alloc _).alloc _).alloc _).trans hga).trans hgb).alloc _).trans hg
      have lb1 : w.heap.size ≤ b1 := by omega
      have lb2 : w.heap.size ≤ b2 := by omega
      clear hh hg n1 n2 hne e0 e1 e2 e3 m1 m2 l1 l2 u1 u2 hsz hsz2 hga hgb
      go_wp2_with fail
      refine (K3.out _).mono ?_; rintro e wc ⟨rfl, hgc⟩
      rw [R.out]
      have v0 : wc.cell? ⟨w.heap.size, 0, none⟩ = some (.float .f64 x) := up_cell (by go_simp) hgc
      have v1 : wc.cell? ⟨w.heap.size, 1, none⟩ = some (.float .f64 y) := up_cell (by go_simp) hgc
      have v2 : wc.cell? ⟨w.heap.size + 1, 0, none⟩ = some (.float .f64 u) := up_cell (by go_simp) hgc
      have v3 : wc.cell? ⟨w.heap.size + 1, 1, none⟩ = some (.float .f64 v) := up_cell (by go_simp) hgc
      have y10 : wc.cell? ⟨b1, 0, none⟩ = some (.float .f64 z0) := up_cell (by go_simp) hgc
      have y11 : wc.cell? ⟨b1, 1, none⟩ = some (.float .f64 z1) := up_cell (by go_simp) hgc
      have y20 : wc.cell? ⟨b2, 0, none⟩ = some (.float .f64 ch0) := up_cell (by go_simp) hgc
      have y21 : wc.cell? ⟨b2, 1, none⟩ = some (.float .f64 ch1) := up_cell (by go_simp) hgc
      have GG := ((((G.setCell (p := ⟨b1, 0, none⟩) lb1 _).setCell (p := ⟨b1, 1, none⟩) lb1 _).setCell (p := ⟨b2, 0, none⟩) lb2 _).setCell (p := ⟨b2, 1, none⟩) lb2 _).trans hgc
      clear G hgc g0 k0 g1 k1 g2 k2 g3 k3 p10 p20 r10 r20 p11 p21 r11 r21
      go_wp2
      go_ret
      exact ⟨rfl, GG⟩
    | false =>
    rw [t0] at le0
    rw [t1] at le1
    have R : Hid (((FloatKind.f64.format.order x u == some .gt || FloatKind.f64.format.order x u == some .eq) || (FloatKind.f64.format.order y v == some .gt || FloatKind.f64.format.order y v == some .eq)) = false) := by show _ = _; simp [t0, t1]
    go_enter Try.func8, Try.ntmps8
    go_wp2_with (go_at_call 12; refine (whole2_calls _ 0 _ [(x, y), (u, v)] _ (p2cells_2 _ _ _ _ _ _ (by go_simp) (by go_simp) (by go_simp) (by go_simp)) (by simp)).mono ?_; rintro e wa ⟨rfl, hga⟩; rw [HB.out]; have k0 : wa.cell? ⟨w.heap.size, 0, none⟩ = some (.float .f64 x) := up_cell (by go_simp) hga; have k1 : wa.cell? ⟨w.heap.size, 1, none⟩ = some (.float .f64 y) := up_cell (by go_simp) hga; have k2 : wa.cell? ⟨w.heap.size + 1, 0, none⟩ = some (.float .f64 u) := up_cell (by go_simp) hga; have k3 : wa.cell? ⟨w.heap.size + 1, 1, none⟩ = some (.float .f64 v) := up_cell (by go_simp) hga)
    have hsz : w.heap.size + 1 + 1 + 1 ≤ wa.heap.size := by simpa using hga.size
    refine (box2_calls _ _ _ _ _).mono ?_; rintro e wb ⟨rfl, hgb⟩
    have e0 := up_cell k0 hgb
    have e1 := up_cell k1 hgb
    have e2 := up_cell k2 hgb
    have e3 := up_cell k3 hgb
    clear k0 k1 k2 k3
    have hsz2 := hgb.size
    go_wp2_with fail
    refine wp_region_grow_tail 6 (fun i => if i = 1 then some (fun _ _ => (fun V _ => V = P2V z0 z1)) else if i = 3 then some (fun _ _ => (fun V _ => V = P2V ch0 ch1)) else if i = 4 then some (FreshP 2 (wb.heap.size + 1)) else if i = 5 then some (FreshP 2 (wb.heap.size + 1)) else none) (by kernel_rfl) (by kernel_rfl) ?_ ?_
    · intro i Φ h lo hi v
      (repeat' split at h) <;> cases h
      · exact fun _ _ h _ => h
      · exact fun _ _ h _ => h
      · exact FreshP.up
      · exact FreshP.up
    simp only [List.take_succ_cons, List.take_zero, List.drop_succ_cons, List.drop_zero]
    repeat (first
      | (refine wpGrow_skip (by rfl) ?_; simp only [Act.put, List.setIfInBounds_toArray, List.set_cons_zero, List.set_cons_succ, Nat.reduceAdd])
      | (refine wpGrow_det' (by rfl) (by rfl) ?_; apply Exists.intro; refine ⟨fun w' hc hh => ?_, ?_⟩; (have hcell := grow_cell hc; clear hc hh; go_simp; rfl); simp only [Act.put, List.setIfInBounds_toArray, List.set_cons_zero, List.set_cons_succ, Nat.reduceAdd]))
    refine wpGrow_eff' (by rfl) (by rfl) (fun w' hc hh => ?_) (fun v lo hi w' hap hc hh hv => ?_)
    · clear hc hh
      go_simp
      go_at_call 25
      refine (K1.out _).mono ?_
      rintro e w2 ⟨rfl, hg⟩
      exact EffPost.mk hg rfl
    obtain rfl := hv
    clear hc hh hap w'
    simp only [Act.put, List.setIfInBounds_toArray, List.set_cons_zero, List.set_cons_succ, Nat.reduceAdd]
    repeat (first
      | (refine wpGrow_skip (by rfl) ?_; simp only [Act.put, List.setIfInBounds_toArray, List.set_cons_zero, List.set_cons_succ, Nat.reduceAdd])
      | (refine wpGrow_det' (by rfl) (by rfl) ?_; apply Exists.intro; refine ⟨fun w' hc hh => ?_, ?_⟩; (have hcell := grow_cell hc; clear hc hh; go_simp; rfl); simp only [Act.put, List.setIfInBounds_toArray, List.set_cons_zero, List.set_cons_succ, Nat.reduceAdd]))
    refine wpGrow_eff' (by rfl) (by rfl) (fun w' hc hh => ?_) (fun v lo hi w' hap hc hh hv => ?_)
    · clear hc hh
      go_simp
      go_at_call 26
      refine (K2.out _).mono ?_
      rintro e w2 ⟨rfl, hg⟩
      exact EffPost.mk hg rfl
    obtain rfl := hv
    clear hc hh hap w'
    simp only [Act.put, List.setIfInBounds_toArray, List.set_cons_zero, List.set_cons_succ, Nat.reduceAdd]
    repeat (first
      | (refine wpGrow_skip (by rfl) ?_; simp only [Act.put, List.setIfInBounds_toArray, List.set_cons_zero, List.set_cons_succ, Nat.reduceAdd])
      | (refine wpGrow_det' (by rfl) (by rfl) ?_; apply Exists.intro; refine ⟨fun w' hc hh => ?_, ?_⟩; (have hcell := grow_cell hc; clear hc hh; go_simp; rfl); simp only [Act.put, List.setIfInBounds_toArray, List.set_cons_zero, List.set_cons_succ, Nat.reduceAdd]))
    refine wpGrow_eff' (by rfl) (by rfl) (fun w' hc hh => ?_) (fun v lo hi w' hap hc hh hv => ?_)
    · have hs : wb.heap.size + 1 ≤ w'.heap.size := by simpa using hc.size
      clear hc hh
      go_simp
      exact EffVal.mk ((Grow.refl _).alloc _) ⟨_, rfl, hs, Nat.le_refl _, by simp, all2 ⟨by go_simp, by go_simp⟩ ⟨by go_simp, by go_simp⟩⟩
    obtain ⟨b1, rfl, m1, l1, u1, -⟩ := hv
    clear hc hh hap w'
    simp only [Act.put, List.setIfInBounds_toArray, List.set_cons_zero, List.set_cons_succ, Nat.reduceAdd]
    repeat (first
      | (refine wpGrow_skip (by rfl) ?_; simp only [Act.put, List.setIfInBounds_toArray, List.set_cons_zero, List.set_cons_succ, Nat.reduceAdd])
      | (refine wpGrow_det' (by rfl) (by rfl) ?_; apply Exists.intro; refine ⟨fun w' hc hh => ?_, ?_⟩; (have hcell := grow_cell hc; clear hc hh; go_simp; rfl); simp only [Act.put, List.setIfInBounds_toArray, List.set_cons_zero, List.set_cons_succ, Nat.reduceAdd]))
    refine wpGrow_eff' (by rfl) (by rfl) (fun w' hc hh => ?_) (fun v lo hi w' hap hc hh hv => ?_)
    · have hs : wb.heap.size + 1 ≤ w'.heap.size := by simpa using hc.size
      clear hc hh
      go_simp
      exact EffVal.mk ((Grow.refl _).alloc _) ⟨_, rfl, hs, Nat.le_refl _, by simp, all2 ⟨by go_simp, by go_simp⟩ ⟨by go_simp, by go_simp⟩⟩
    obtain ⟨b2, rfl, m2, l2, u2, -⟩ := hv
    have hne : b1 ≠ b2 := by have := hap 4 _ _ rfl; omega
    clear hc hh hap w'
    simp only [Act.put, List.setIfInBounds_toArray, List.set_cons_zero, List.set_cons_succ, Nat.reduceAdd]
    repeat (first
      | (refine wpGrow_skip (by rfl) ?_; simp only [Act.put, List.setIfInBounds_toArray, List.set_cons_zero, List.set_cons_succ, Nat.reduceAdd])
      | (refine wpGrow_det' (by rfl) (by rfl) ?_; apply Exists.intro; refine ⟨fun w' hc hh => ?_, ?_⟩; (have hcell := grow_cell hc; clear hc hh; go_simp; rfl); simp only [Act.put, List.setIfInBounds_toArray, List.set_cons_zero, List.set_cons_succ, Nat.reduceAdd]))
    refine wpGrow_nil ?_
    intro w1 hg hh
    obtain ⟨b1', q1, -, -, -, n1⟩ := (hh 4).1
    obtain ⟨b2', q2, -, -, -, n2⟩ := (hh 5).1
    cases q1; cases q2
    obtain ⟨p10, r10⟩ := n1 0 (by omega)
    obtain ⟨p11, r11⟩ := n1 1 (by omega)
    obtain ⟨p20, r20⟩ := n2 0 (by omega)
    obtain ⟨p21, r21⟩ := n2 1 (by omega)
    have g0 := up_cell e0 (((Grow.refl wb).alloc _).trans hg)
    have g1 := up_cell e1 (((Grow.refl wb).alloc _).trans hg)
    have g2 := up_cell e2 (((Grow.refl wb).alloc _).trans hg)
    have g3 := up_cell e3 (((Grow.refl wb).alloc _).trans hg)
    have k0 : w1.cell? ⟨wb.heap.size, 0, none⟩ = some (.float .f64 x) := up_cell (by go_simp) hg
    have k1 : w1.cell? ⟨wb.heap.size, 1, none⟩ = some (.float .f64 y) := up_cell (by go_simp) hg
    have k2 : w1.cell? ⟨wb.heap.size, 2, none⟩ = some (.float .f64 u) := up_cell (by go_simp) hg
    have k3 : w1.cell? ⟨wb.heap.size, 3, none⟩ = some (.float .f64 v) := up_cell (by go_simp) hg
    have ne1 : ¬ b1 = b2 := hne
    have ne2 : ¬ b2 = b1 := fun h => hne h.symm
    have nx1 : ¬ b1 = w.heap.size := by omega
    have ny1 : ¬ b1 = w.heap.size + 1 := by omega
    have nz1 : ¬ b1 = wb.heap.size := by omega
    have nx2 : ¬ b2 = w.heap.size := by omega
    have ny2 : ¬ b2 = w.heap.size + 1 := by omega
    have nz2 : ¬ b2 = wb.heap.size := by omega
    have G : Grow w w1 := (((((((Grow.refl w).alloc _).alloc _).alloc _).trans hga).trans hgb).alloc _).trans hg
    have lb1 : w.heap.size ≤ b1 := by omega
    have lb2 : w.heap.size ≤ b2 := by omega
    clear hh hg n1 n2 hne e0 e1 e2 e3 m1 m2 l1 l2 u1 u2 hsz hsz2 hga hgb
    go_wp2_with fail
    refine (K3.out _).mono ?_; rintro e wc ⟨rfl, hgc⟩
    rw [R.out]
    have v0 : wc.cell? ⟨w.heap.size, 0, none⟩ = some (.float .f64 x) := up_cell (by go_simp) hgc
    have v1 : wc.cell? ⟨w.heap.size, 1, none⟩ = some (.float .f64 y) := up_cell (by go_simp) hgc
    have v2 : wc.cell? ⟨w.heap.size + 1, 0, none⟩ = some (.float .f64 u) := up_cell (by go_simp) hgc
    have v3 : wc.cell? ⟨w.heap.size + 1, 1, none⟩ = some (.float .f64 v) := up_cell (by go_simp) hgc
    have y10 : wc.cell? ⟨b1, 0, none⟩ = some (.float .f64 z0) := up_cell (by go_simp) hgc
    have y11 : wc.cell? ⟨b1, 1, none⟩ = some (.float .f64 z1) := up_cell (by go_simp) hgc
    have y20 : wc.cell? ⟨b2, 0, none⟩ = some (.float .f64 ch0) := up_cell (by go_simp) hgc
    have y21 : wc.cell? ⟨b2, 1, none⟩ = some (.float .f64 ch1) := up_cell (by go_simp) hgc
    have GG := ((((G.setCell (p := ⟨b1, 0, none⟩) lb1 _).setCell (p := ⟨b1, 1, none⟩) lb1 _).setCell (p := ⟨b2, 0, none⟩) lb2 _).setCell (p := ⟨b2, 1, none⟩) lb2 _).trans hgc
    clear G hgc g0 k0 g1 k1 g2 k2 g3 k3 p10 p20 r10 r20 p11 p21 r11 r21
    go_wp2
    go_ret
    exact ⟨rfl, GG⟩
end Go.Proofs.Ytincapjbhbmeiaa
