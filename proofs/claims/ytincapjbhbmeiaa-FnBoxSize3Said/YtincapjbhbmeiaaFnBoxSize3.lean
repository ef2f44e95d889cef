import Derived.Test.YtincapjbhbmeiaaBox3
import Derived.Test.YtincapjbhbmeiaaFlH
namespace Go.Proofs.Ytincapjbhbmeiaa
open Go.ChangeShapes Go.WideShapes Go.ChangeAt Go.RowKit Go.GrowR
set_option linter.unusedVariables false
set_option linter.unusedSimpArgs false
set_option maxHeartbeats 4000000 in
theorem fnBoxSize3_calls (x y z u v t : Nat) (w : World) : Calls Try.prog 9 #[P3V x y z, P3V u v t] w fun e w' => e = .returned (.bool true) ∧ Grow w w' := by
  cases hb : [(x, y, z), (u, v, t)].all p3B with
  | false =>
    have HB := Lib.hid hb; clear hb
    go_enter Try.func9, Try.ntmps9
    go_wp2_with (go_at_call 15; refine (whole3_calls _ 0 _ [(x, y, z), (u, v, t)] _ (p3cells_2 _ _ _ _ _ _ _ _ (by go_simp) (by go_simp) (by go_simp) (by go_simp) (by go_simp) (by go_simp)) (by simp)).mono ?_; rintro e wa ⟨rfl, hga⟩; rw [HB.out])
    go_ret
    exact ⟨rfl, ((((Grow.refl w).alloc _).alloc _).alloc _).trans hga⟩
  | true =>
    have HB := Lib.hid hb
    simp only [List.all_cons, List.all_nil, Bool.and_true, Bool.and_eq_true] at hb
    obtain ⟨a, b, c, ia, a1, a2, ib, b1, b2, ic, c1, c2⟩ := p3B_true hb.1
    obtain ⟨p, q, r, ip, p1, p2, iq, q1, q2, ir, r1, r2⟩ := p3B_true hb.2
    clear hb
    obtain ⟨z0, h0, iz0⟩ := Fl.sub_I ip ia (by omega)
    obtain ⟨s0, g0, is0⟩ := Fl.add_I ia ip (by omega)
    obtain ⟨ch0, hc0, vc0⟩ := Fl.half_I is0 (by omega)
    obtain ⟨qu0, hq0, vq0⟩ := Fl.halved_I is0 (by omega)
    have eqz0 := Fl.eqB iz0 iz0
    have eqc0 := Fl.eqV vc0 vq0
    have f10 := fop (P := Try.prog) h0
    have f20 := fop (P := Try.prog) g0
    have f30 := fop (P := Try.prog) hq0
    have le0 : (FloatKind.f64.format.order u x == some .lt || FloatKind.f64.format.order u x == some .eq) = (FloatKind.f64.format.order x u == some .gt || FloatKind.f64.format.order x u == some .eq) := by rw [Fl.le_V ip ia, Fl.ge_V ia ip]
    obtain ⟨z1, h1, iz1⟩ := Fl.sub_I iq ib (by omega)
    obtain ⟨s1, g1, is1⟩ := Fl.add_I ib iq (by omega)
    obtain ⟨ch1, hc1, vc1⟩ := Fl.half_I is1 (by omega)
    obtain ⟨qu1, hq1, vq1⟩ := Fl.halved_I is1 (by omega)
    have eqz1 := Fl.eqB iz1 iz1
    have eqc1 := Fl.eqV vc1 vq1
    have f11 := fop (P := Try.prog) h1
    have f21 := fop (P := Try.prog) g1
    have f31 := fop (P := Try.prog) hq1
    have le1 : (FloatKind.f64.format.order v y == some .lt || FloatKind.f64.format.order v y == some .eq) = (FloatKind.f64.format.order y v == some .gt || FloatKind.f64.format.order y v == some .eq) := by rw [Fl.le_V iq ib, Fl.ge_V ib iq]
    obtain ⟨z2, h2, iz2⟩ := Fl.sub_I ir ic (by omega)
    obtain ⟨s2, g2, is2⟩ := Fl.add_I ic ir (by omega)
    obtain ⟨ch2, hc2, vc2⟩ := Fl.half_I is2 (by omega)
    obtain ⟨qu2, hq2, vq2⟩ := Fl.halved_I is2 (by omega)
    have eqz2 := Fl.eqB iz2 iz2
    have eqc2 := Fl.eqV vc2 vq2
    have f12 := fop (P := Try.prog) h2
    have f22 := fop (P := Try.prog) g2
    have f32 := fop (P := Try.prog) hq2
    have le2 : (FloatKind.f64.format.order t z == some .lt || FloatKind.f64.format.order t z == some .eq) = (FloatKind.f64.format.order z t == some .gt || FloatKind.f64.format.order z t == some .eq) := by rw [Fl.le_V ir ic, Fl.ge_V ic ir]
    have K1 := Lib.hid (fun w => size3_calls x y z u v t z0 z1 z2 w h0 h1 h2)
    have K2 := Lib.hid (fun w => center3_calls x y z u v t s0 s1 s2 ch0 ch1 ch2 w g0 hc0 g1 hc1 g2 hc2)
    have K3 := Lib.hid (fun w => empty3_calls x y z u v t w)
    clear h0 iz0 g0 is0 hc0 vc0 hq0 vq0 h1 iz1 g1 is1 hc1 vc1 hq1 vq1 h2 iz2 g2 is2 hc2 vc2 hq2 vq2 ia a1 a2 ib b1 b2 ic c1 c2 ip p1 p2 iq q1 q2 ir r1 r2
    cases t0 : (FloatKind.f64.format.order x u == some .gt || FloatKind.f64.format.order x u == some .eq) with
    | true =>
      rw [t0] at le0
      clear le1 le2
      have R : Hid (((FloatKind.f64.format.order x u == some .gt || FloatKind.f64.format.order x u == some .eq) || ((FloatKind.f64.format.order y v == some .gt || FloatKind.f64.format.order y v == some .eq) || (FloatKind.f64.format.order z t == some .gt || FloatKind.f64.format.order z t == some .eq))) = true) := by show _ = _; simp [t0]
      go_enter Try.func9, Try.ntmps9
      go_wp2_with (go_at_call 15; refine (whole3_calls _ 0 _ [(x, y, z), (u, v, t)] _ (p3cells_2 _ _ _ _ _ _ _ _ (by go_simp) (by go_simp) (by go_simp) (by go_simp) (by go_simp) (by go_simp)) (by simp)).mono ?_; rintro e wa ⟨rfl, hga⟩; rw [HB.out]; have k0 : wa.cell? ⟨w.heap.size, 0, none⟩ = some (.float .f64 x) := up_cell (by go_simp) hga; have k1 : wa.cell? ⟨w.heap.size, 1, none⟩ = some (.float .f64 y) := up_cell (by go_simp) hga; have k2 : wa.cell? ⟨w.heap.size, 2, none⟩ = some (.float .f64 z) := up_cell (by go_simp) hga; have k3 : wa.cell? ⟨w.heap.size + 1, 0, none⟩ = some (.float .f64 u) := up_cell (by go_simp) hga; have k4 : wa.cell? ⟨w.heap.size + 1, 1, none⟩ = some (.float .f64 v) := up_cell (by go_simp) hga; have k5 : wa.cell? ⟨w.heap.size + 1, 2, none⟩ = some (.float .f64 t) := up_cell (by go_simp) hga)
      have hsz : w.heap.size + 1 + 1 + 1 ≤ wa.heap.size := by simpa using hga.size
      refine (box3_calls _ _ _ _ _ _ _).mono ?_; rintro e wb ⟨rfl, hgb⟩
      have e0 := up_cell k0 hgb
      have e1 := up_cell k1 hgb
      have e2 := up_cell k2 hgb
      have e3 := up_cell k3 hgb
      have e4 := up_cell k4 hgb
      have e5 := up_cell k5 hgb
      clear k0 k1 k2 k3 k4 k5
      have hsz2 := hgb.size
      go_wp2_with fail
      refine wp_region_grow_tail 6 (fun i => if i = 1 then some (fun _ _ => (fun V _ => V = P3V z0 z1 z2)) else if i = 3 then some (fun _ _ => (fun V _ => V = P3V ch0 ch1 ch2)) else if i = 4 then some (FreshP 3 (wb.heap.size + 1)) else if i = 5 then some (FreshP 3 (wb.heap.size + 1)) else none) (by kernel_rfl) (by kernel_rfl) ?_ ?_
      · intro i Φ h lo hi v
        (repeat' split at h) <;> cases h
        · exact fun _ _ h _ => h
        · exact fun _ _ h _ => h
        · exact FreshP.up
        · exact FreshP.up
      simp only [List.take_succ_cons, List.take_zero, List.drop_succ_cons, List.drop_zero]
      repeat (first
        | (refine wpGrow_skip (by rfl) ?_; simp only [Act.put, List.setIfInBounds_toArray, List.set_cons_zero, List.set_cons_succ, Nat.reduceAdd])
        | (refine wpGrow_det' (by rfl) (by rfl) ?_; apply Exists.intro; refine ⟨fun w' hc hh => ?_, ?_⟩; (have hcell := grow_cell hc; clear hc hh; go_simp; rfl); simp only [Act.put, List.setIfInBounds_toArray, List.set_cons_zero, List.set_cons_succ, Nat.reduceAdd]))
      refine wpGrow_eff' (by rfl) (by rfl) (fun w' hc hh => ?_) (fun v lo hi w' hap hc hh hv => ?_)
      · clear hc hh
        go_simp
        go_at_call 28
        refine (K1.out _).mono ?_
        rintro e w2 ⟨rfl, hg⟩
        exact EffPost.mk hg rfl
      obtain rfl := hv
      clear hc hh hap w'
      simp only [Act.put, List.setIfInBounds_toArray, List.set_cons_zero, List.set_cons_succ, Nat.reduceAdd]
      repeat (first
        | (refine wpGrow_skip (by rfl) ?_; simp only [Act.put, List.setIfInBounds_toArray, List.set_cons_zero, List.set_cons_succ, Nat.reduceAdd])
        | (refine wpGrow_det' (by rfl) (by rfl) ?_; apply Exists.intro; refine ⟨fun w' hc hh => ?_, ?_⟩; (have hcell := grow_cell hc; clear hc hh; go_simp; rfl); simp only [Act.put, List.setIfInBounds_toArray, List.set_cons_zero, List.set_cons_succ, Nat.reduceAdd]))
      refine wpGrow_eff' (by rfl) (by rfl) (fun w' hc hh => ?_) (fun v lo hi w' hap hc hh hv => ?_)
      · clear hc hh
        go_simp
        go_at_call 29
        refine (K2.out _).mono ?_
        rintro e w2 ⟨rfl, hg⟩
        exact EffPost.mk hg rfl
      obtain rfl := hv
      clear hc hh hap w'
      simp only [Act.put, List.setIfInBounds_toArray, List.set_cons_zero, List.set_cons_succ, Nat.reduceAdd]
      repeat (first
        | (refine wpGrow_skip (by rfl) ?_; simp only [Act.put, List.setIfInBounds_toArray, List.set_cons_zero, List.set_cons_succ, Nat.reduceAdd])
        | (refine wpGrow_det' (by rfl) (by rfl) ?_; apply Exists.intro; refine ⟨fun w' hc hh => ?_, ?_⟩; (have hcell := grow_cell hc; clear hc hh; go_simp; rfl); simp only [Act.put, List.setIfInBounds_toArray, List.set_cons_zero, List.set_cons_succ, Nat.reduceAdd]))
      refine wpGrow_eff' (by rfl) (by rfl) (fun w' hc hh => ?_) (fun v lo hi w' hap hc hh hv => ?_)
      · have hs : wb.heap.size + 1 ≤ w'.heap.size := by simpa using hc.size
        clear hc hh
        go_simp
        exact EffVal.mk ((Grow.refl _).alloc _) ⟨_, rfl, hs, Nat.le_refl _, by simp, all3 ⟨by go_simp, by go_simp⟩ ⟨by go_simp, by go_simp⟩ ⟨by go_simp, by go_simp⟩⟩
      obtain ⟨b1, rfl, m1, l1, u1, -⟩ := hv
      clear hc hh hap w'
      simp only [Act.put, List.setIfInBounds_toArray, List.set_cons_zero, List.set_cons_succ, Nat.reduceAdd]
      repeat (first
        | (refine wpGrow_skip (by rfl) ?_; simp only [Act.put, List.setIfInBounds_toArray, List.set_cons_zero, List.set_cons_succ, Nat.reduceAdd])
        | (refine wpGrow_det' (by rfl) (by rfl) ?_; apply Exists.intro; refine ⟨fun w' hc hh => ?_, ?_⟩; (have hcell := grow_cell hc; clear hc hh; go_simp; rfl); simp only [Act.put, List.setIfInBounds_toArray, List.set_cons_zero, List.set_cons_succ, Nat.reduceAdd]))
      refine wpGrow_eff' (by rfl) (by rfl) (fun w' hc hh => ?_) (fun v lo hi w' hap hc hh hv => ?_)
      · have hs : wb.heap.size + 1 ≤ w'.heap.size := by simpa using hc.size
        clear hc hh
        go_simp
        exact EffVal.mk ((Grow.refl _).alloc _) ⟨_, rfl, hs, Nat.le_refl _, by simp, all3 ⟨by go_simp, by go_simp⟩ ⟨by go_simp, by go_simp⟩ ⟨by go_simp, by go_simp⟩⟩
      obtain ⟨b2, rfl, m2, l2, u2, -⟩ := hv
      have hne : b1 ≠ b2 := by have := hap 4 _ _ rfl; omega
      clear hc hh hap w'
      simp only [Act.put, List.setIfInBounds_toArray, List.set_cons_zero, List.set_cons_succ, Nat.reduceAdd]
      repeat (first
        | (refine wpGrow_skip (by rfl) ?_; simp only [Act.put, List.setIfInBounds_toArray, List.set_cons_zero, List.set_cons_succ, Nat.reduceAdd])
        | (refine wpGrow_det' (by rfl) (by rfl) ?_; apply Exists.intro; refine ⟨fun w' hc hh => ?_, ?_⟩; (have hcell := grow_cell hc; clear hc hh; go_simp; rfl); simp only [Act.put, List.setIfInBounds_toArray, List.set_cons_zero, List.set_cons_succ, Nat.reduceAdd]))
      refine wpGrow_nil ?_
      intro w1 hg hh
      obtain ⟨b1', q1, -, -, -, n1⟩ := (hh 4).1
      obtain ⟨b2', q2, -, -, -, n2⟩ := (hh 5).1
      cases q1; cases q2
      obtain ⟨p10, r10⟩ := n1 0 (by omega)
      obtain ⟨p11, r11⟩ := n1 1 (by omega)
      obtain ⟨p12, r12⟩ := n1 2 (by omega)
      obtain ⟨p20, r20⟩ := n2 0 (by omega)
      obtain ⟨p21, r21⟩ := n2 1 (by omega)
      obtain ⟨p22, r22⟩ := n2 2 (by omega)
      have g0 := up_cell e0 (((Grow.refl wb).alloc _).trans hg)
      have g1 := up_cell e1 (((Grow.refl wb).alloc _).trans hg)
      have g2 := up_cell e2 (((Grow.refl wb).alloc _).trans hg)
      have g3 := up_cell e3 (((Grow.refl wb).alloc _).trans hg)
      have g4 := up_cell e4 (((Grow.refl wb).alloc _).trans hg)
      have g5 := up_cell e5 (((Grow.refl wb).alloc _).trans hg)
      have k0 : w1.cell? ⟨wb.heap.size, 0, none⟩ = some (.float .f64 x) := up_cell (by go_simp) hg
      have k1 : w1.cell? ⟨wb.heap.size, 1, none⟩ = some (.float .f64 y) := up_cell (by go_simp) hg
      have k2 : w1.cell? ⟨wb.heap.size, 2, none⟩ = some (.float .f64 z) := up_cell (by go_simp) hg
      have k3 : w1.cell? ⟨wb.heap.size, 3, none⟩ = some (.float .f64 u) := up_cell (by go_simp) hg
      have k4 : w1.cell? ⟨wb.heap.size, 4, none⟩ = some (.float .f64 v) := up_cell (by go_simp) hg
      have k5 : w1.cell? ⟨wb.heap.size, 5, none⟩ = some (.float .f64 t) := up_cell (by go_simp) hg
      have ne1 : ¬ b1 = b2 := hne
      have ne2 : ¬ b2 = b1 := fun h => hne h.symm
      have nx1 : ¬ b1 = w.heap.size := by omega
      have ny1 : ¬ b1 = w.heap.size + 1 := by omega
      have nz1 : ¬ b1 = wb.heap.size := by omega
      have nx2 : ¬ b2 = w.heap.size := by omega
      have ny2 : ¬ b2 = w.heap.size + 1 := by omega
      have nz2 : ¬ b2 = wb.heap.size := by omega
      have G : Grow w w1 := (((((((Grow.refl w).alloc _).alloc _).alloc _).trans hga).trans hgb).alloc _).trans hg
      have lb1 : w.heap.size ≤ b1 := by omega
      have lb2 : w.heap.size ≤ b2 := by omega
      clear hh hg n1 n2 hne e0 e1 e2 e3 e4 e5 m1 m2 l1 l2 u1 u2 hsz hsz2 hga hgb
      go_wp2_with fail
      refine (K3.out _).mono ?_; rintro e wc ⟨rfl, hgc⟩
      rw [R.out]
      have v0 : wc.cell? ⟨w.heap.size, 0, none⟩ = some (.float .f64 x) := up_cell (by go_simp) hgc
      have v1 : wc.cell? ⟨w.heap.size, 1, none⟩ = some (.float .f64 y) := up_cell (by go_simp) hgc
      have v2 : wc.cell? ⟨w.heap.size, 2, none⟩ = some (.float .f64 z) := up_cell (by go_simp) hgc
      have v3 : wc.cell? ⟨w.heap.size + 1, 0, none⟩ = some (.float .f64 u) := up_cell (by go_simp) hgc
      have v4 : wc.cell? ⟨w.heap.size + 1, 1, none⟩ = some (.float .f64 v) := up_cell (by go_simp) hgc
      have v5 : wc.cell? ⟨w.heap.size + 1, 2, none⟩ = some (.float .f64 t) := up_cell (by go_simp) hgc
      have y10 : wc.cell? ⟨b1, 0, none⟩ = some (.float .f64 z0) := up_cell (by go_simp) hgc
      have y11 : wc.cell? ⟨b1, 1, none⟩ = some (.float .f64 z1) := up_cell (by go_simp) hgc
      have y12 : wc.cell? ⟨b1, 2, none⟩ = some (.float .f64 z2) := up_cell (by go_simp) hgc
      have y20 : wc.cell? ⟨b2, 0, none⟩ = some (.float .f64 ch0) := up_cell (by go_simp) hgc
      have y21 : wc.cell? ⟨b2, 1, none⟩ = some (.float .f64 ch1) := up_cell (by go_simp) hgc
      have y22 : wc.cell? ⟨b2, 2, none⟩ = some (.float .f64 ch2) := up_cell (by go_simp) hgc
      have GG := ((((((G.setCell (p := ⟨b1, 0, none⟩) lb1 _).setCell (p := ⟨b1, 1, none⟩) lb1 _).setCell (p := ⟨b1, 2, none⟩) lb1 _).setCell (p := ⟨b2, 0, none⟩) lb2 _).setCell (p := ⟨b2, 1, none⟩) lb2 _).setCell (p := ⟨b2, 2, none⟩) lb2 _).trans hgc
      clear G hgc g0 k0 g1 k1 g2 k2 g3 k3 g4 k4 g5 k5 p10 p20 r10 r20 p11 p21 r11 r21 p12 p22 r12 r22
      go_wp2
      go_ret
      exact ⟨rfl, GG⟩
    | false =>
    cases t1 : (FloatKind.f64.format.order y v == some .gt || FloatKind.f64.format.order y v == some .eq) with
    | true =>
      rw [t0] at le0
      rw [t1] at le1
      clear le2
      have R : Hid (((FloatKind.f64.format.order x u == some .gt || FloatKind.f64.format.order x u == some .eq) || ((FloatKind.f64.format.order y v == some .gt || FloatKind.f64.format.order y v == some .eq) || (FloatKind.f64.format.order z t == some .gt || FloatKind.f64.format.order z t == some .eq))) = true) := by show _ = _; simp [t0, t1]
      go_enter Try.func9, Try.ntmps9
      go_wp2_with (go_at_call 15; refine (whole3_calls _ 0 _ [(x, y, z), (u, v, t)] _ (p3cells_2 _ _ _ _ _ _ _ _ (by go_simp) (by go_simp) (by go_simp) (by go_simp) (by go_simp) (by go_simp)) (by simp)).mono ?_; rintro e wa ⟨rfl, hga⟩; rw [HB.out]; have k0 : wa.cell? ⟨w.heap.size, 0, none⟩ = some (.float .f64 x) := up_cell (by go_simp) hga; have k1 : wa.cell? ⟨w.heap.size, 1, none⟩ = some (.float .f64 y) := up_cell (by go_simp) hga; have k2 : wa.cell? ⟨w.heap.size, 2, none⟩ = some (.float .f64 z) := up_cell (by go_simp) hga; have k3 : wa.cell? ⟨w.heap.size + 1, 0, none⟩ = some (.float .f64 u) := up_cell (by go_simp) hga; have k4 : wa.cell? ⟨w.heap.size + 1, 1, none⟩ = some (.float .f64 v) := up_cell (by go_simp) hga; have k5 : wa.cell? ⟨w.heap.size + 1, 2, none⟩ = some (.float .f64 t) := up_cell (by go_simp) hga)
      have hsz : w.heap.size + 1 + 1 + 1 ≤ wa.heap.size := by simpa using hga.size
      refine (box3_calls _ _ _ _ _ _ _).mono ?_; rintro e wb ⟨rfl, hgb⟩
      have e0 := up_cell k0 hgb
      have e1 := up_cell k1 hgb
      have e2 := up_cell k2 hgb
      have e3 := up_cell k3 hgb
      have e4 := up_cell k4 hgb
      have e5 := up_cell k5 hgb
      clear k0 k1 k2 k3 k4 k5
      have hsz2 := hgb.size
      go_wp2_with fail
      refine wp_region_grow_tail 6 (fun i => if i = 1 then some (fun _ _ => (fun V _ => V = P3V z0 z1 z2)) else if i = 3 then some (fun _ _ => (fun V _ => V = P3V ch0 ch1 ch2)) else if i = 4 then some (FreshP 3 (wb.heap.size + 1)) else if i = 5 then some (FreshP 3 (wb.heap.size + 1)) else none) (by kernel_rfl) (by kernel_rfl) ?_ ?_
      · intro i Φ h lo hi v
        (repeat' split at h) <;> cases h
        · exact fun _ _ h _ => h
        · exact fun _ _ h _ => h
        · exact FreshP.up
        · exact FreshP.up
      simp only [List.take_succ_cons, List.take_zero, List.drop_succ_cons, List.drop_zero]
      repeat (first
        | (refine wpGrow_skip (by rfl) ?_; simp only [Act.put, List.setIfInBounds_toArray, List.set_cons_zero, List.set_cons_succ, Nat.reduceAdd])
        | (refine wpGrow_det' (by rfl) (by rfl) ?_; apply Exists.intro; refine ⟨fun w' hc hh => ?_, ?_⟩; (have hcell := grow_cell hc; clear hc hh; go_simp; rfl); simp only [Act.put, List.setIfInBounds_toArray, List.set_cons_zero, List.set_cons_succ, Nat.reduceAdd]))
      refine wpGrow_eff' (by rfl) (by rfl) (fun w' hc hh => ?_) (fun v lo hi w' hap hc hh hv => ?_)
      · clear hc hh
        go_simp
        go_at_call 28
        refine (K1.out _).mono ?_
        rintro e w2 ⟨rfl, hg⟩
        exact EffPost.mk hg rfl
      obtain rfl := hv
      clear hc hh hap w'
      simp only [Act.put, List.setIfInBounds_toArray, List.set_cons_zero, List.set_cons_succ, Nat.reduceAdd]
      repeat (first
        | (refine wpGrow_skip (by rfl) ?_; simp only [Act.put, List.setIfInBounds_toArray, List.set_cons_zero, List.set_cons_succ, Nat.reduceAdd])
        | (refine wpGrow_det' (by rfl) (by rfl) ?_; apply Exists.intro; refine ⟨fun w' hc hh => ?_, ?_⟩; (have hcell := grow_cell hc; clear hc hh; go_simp; rfl); simp only [Act.put, List.setIfInBounds_toArray, List.set_cons_zero, List.set_cons_succ, Nat.reduceAdd]))
      refine wpGrow_eff' (by rfl) (by rfl) (fun w' hc hh => ?_) (fun v lo hi w' hap hc hh hv => ?_)
      · clear hc hh
        go_simp
        go_at_call 29
        refine (K2.out _).mono ?_
        rintro e w2 ⟨rfl, hg⟩
        exact EffPost.mk hg rfl
      obtain rfl := hv
      clear hc hh hap w'
      simp only [Act.put, List.setIfInBounds_toArray, List.set_cons_zero, List.set_cons_succ, Nat.reduceAdd]
      repeat (first
        | (refine wpGrow_skip (by rfl) ?_; simp only [Act.put, List.setIfInBounds_toArray, List.set_cons_zero, List.set_cons_succ, Nat.reduceAdd])
        | (refine wpGrow_det' (by rfl) (by rfl) ?_; apply Exists.intro; refine ⟨fun w' hc hh => ?_, ?_⟩; (have hcell := grow_cell hc; clear hc hh; go_simp; rfl); simp only [Act.put, List.setIfInBounds_toArray, List.set_cons_zero, List.set_cons_succ, Nat.reduceAdd]))
      refine wpGrow_eff' (by rfl) (by rfl) (fun w' hc hh => ?_) (fun v lo hi w' hap hc hh hv => ?_)
      · have hs : wb.heap.size + 1 ≤ w'.heap.size := by simpa using hc.size
        clear hc hh
        go_simp
        exact EffVal.mk ((Grow.refl _).alloc _) ⟨_, rfl, hs, Nat.le_refl _, by simp, all3 ⟨by go_simp, by go_simp⟩ ⟨by go_simp, by go_simp⟩ ⟨by go_simp, by go_simp⟩⟩
      obtain ⟨b1, rfl, m1, l1, u1, -⟩ := hv
      clear hc hh hap w'
      simp only [Act.put, List.setIfInBounds_toArray, List.set_cons_zero, List.set_cons_succ, Nat.reduceAdd]
      repeat (first
        | (refine wpGrow_skip (by rfl) ?_; simp only [Act.put, List.setIfInBounds_toArray, List.set_cons_zero, List.set_cons_succ, Nat.reduceAdd])
        | (refine wpGrow_det' (by rfl) (by rfl) ?_; apply Exists.intro; refine ⟨fun w' hc hh => ?_, ?_⟩; (have hcell := grow_cell hc; clear hc hh; go_simp; rfl); simp only [Act.put, List.setIfInBounds_toArray, List.set_cons_zero, List.set_cons_succ, Nat.reduceAdd]))
      refine wpGrow_eff' (by rfl) (by rfl) (fun w' hc hh => ?_) (fun v lo hi w' hap hc hh hv => ?_)
      · have hs : wb.heap.size + 1 ≤ w'.heap.size := by simpa using hc.size
        clear hc hh
        go_simp
        exact EffVal.mk ((Grow.refl _).alloc _) ⟨_, rfl, hs, Nat.le_refl _, by simp, all3 ⟨by go_simp, by go_simp⟩ ⟨by go_simp, by go_simp⟩ ⟨by go_simp, by go_simp⟩⟩
      obtain ⟨b2, rfl, m2, l2, u2, -⟩ := hv
      have hne : b1 ≠ b2 := by have := hap 4 _ _ rfl; omega
      clear hc hh hap w'
      simp only [Act.put, List.setIfInBounds_toArray, List.set_cons_zero, List.set_cons_succ, Nat.reduceAdd]
      repeat (first
        | (refine wpGrow_skip (by rfl) ?_; simp only [Act.put, List.setIfInBounds_toArray, List.set_cons_zero, List.set_cons_succ, Nat.reduceAdd])
        | (refine wpGrow_det' (by rfl) (by rfl) ?_; apply Exists.intro; refine ⟨fun w' hc hh => ?_, ?_⟩; (have hcell := grow_cell hc; clear hc hh; go_simp; rfl); simp only [Act.put, List.setIfInBounds_toArray, List.set_cons_zero, List.set_cons_succ, Nat.reduceAdd]))
      refine wpGrow_nil ?_
      intro w1 hg hh
      obtain ⟨b1', q1, -, -, -, n1⟩ := (hh 4).1
      obtain ⟨b2', q2, -, -, -, n2⟩ := (hh 5).1
      cases q1; cases q2
      obtain ⟨p10, r10⟩ := n1 0 (by omega)
      obtain ⟨p11, r11⟩ := n1 1 (by omega)
      obtain ⟨p12, r12⟩ := n1 2 (by omega)
      obtain ⟨p20, r20⟩ := n2 0 (by omega)
      obtain ⟨p21, r21⟩ := n2 1 (by omega)
      obtain ⟨p22, r22⟩ := n2 2 (by omega)
      have g0 := up_cell e0 (((Grow.refl wb).alloc _).trans hg)
      have g1 := up_cell e1 (((Grow.refl wb).alloc _).trans hg)
      have g2 := up_cell e2 (((Grow.refl wb).alloc _).trans hg)
      have g3 := up_cell e3 (((Grow.refl wb).alloc _).trans hg)
      have g4 := up_cell e4 (((Grow.refl wb).alloc _).trans hg)
      have g5 := up_cell e5 (((Grow.refl wb).alloc _).trans hg)
      have k0 : w1.cell? ⟨wb.heap.size, 0, none⟩ = some (.float .f64 x) := up_cell (by go_simp) hg
      have k1 : w1.cell? ⟨wb.heap.size, 1, none⟩ = some (.float .f64 y) := up_cell (by go_simp) hg
      have k2 : w1.cell? ⟨wb.heap.size, 2, none⟩ = some (.float .f64 z) := up_cell (by go_simp) hg
      have k3 : w1.cell? ⟨wb.heap.size, 3, none⟩ = some (.float .f64 u) := up_cell (by go_simp) hg
      have k4 : w1.cell? ⟨wb.heap.size, 4, none⟩ = some (.float .f64 v) := up_cell (by go_simp) hg
      have k5 : w1.cell? ⟨wb.heap.size, 5, none⟩ = some (.float .f64 t) := up_cell (by go_simp) hg
      have ne1 : ¬ b1 = b2 := hne
      have ne2 : ¬ b2 = b1 := fun h => hne h.symm
      have nx1 : ¬ b1 = w.heap.size := by omega
      have ny1 : ¬ b1 = w.heap.size + 1 := by omega
      have nz1 : ¬ b1 = wb.heap.size := by omega
      have nx2 : ¬ b2 = w.heap.size := by omega
      have ny2 : ¬ b2 = w.heap.size + 1 := by omega
      have nz2 : ¬ b2 = wb.heap.size := by omega
      have G : Grow w w1 := (((((((Grow.refl w).alloc _).alloc _).alloc _).trans hga).trans hgb).alloc _).trans hg
      have lb1 : w.heap.size ≤ b1 := by omega
      have lb2 : w.heap.size ≤ b2 := by omega
      clear hh hg n1 n2 hne e0 e1 e2 e3 e4 e5 m1 m2 l1 l2 u1 u2 hsz hsz2 hga hgb
      go_wp2_with fail
      refine (K3.out _).mono ?_; rintro e wc ⟨rfl, hgc⟩
      rw [R.out]
      have v0 : wc.cell? ⟨w.heap.size, 0, none⟩ = some (.float .f64 x) := up_cell (by go_simp) hgc
      have v1 : wc.cell? ⟨w.heap.size, 1, none⟩ = some (.float .f64 y) := up_cell (by go_simp) hgc
      have v2 : wc.cell? ⟨w.heap.size, 2, none⟩ = some (.float .f64 z) := up_cell (by go_simp) hgc
      have v3 : wc.cell? ⟨w.heap.size + 1, 0, none⟩ = some (.float .f64 u) := up_cell (by go_simp) hgc
      have v4 : wc.cell? ⟨w.heap.size + 1, 1, none⟩ = some (.float .f64 v) := up_cell (by go_simp) hgc
      have v5 : wc.cell? ⟨w.heap.size + 1, 2, none⟩ = some (.float .f64 t) := up_cell (by go_simp) hgc
      have y10 : wc.cell? ⟨b1, 0, none⟩ = some (.float .f64 z0) := up_cell (by go_simp) hgc
      have y11 : wc.cell? ⟨b1, 1, none⟩ = some (.float .f64 z1) := up_cell (by go_simp) hgc
      have y12 : wc.cell? ⟨b1, 2, none⟩ = some (.float .f64 z2) := up_cell (by go_simp) hgc
      have y20 : wc.cell? ⟨b2, 0, none⟩ = some (.float .f64 ch0) := up_cell (by go_simp) hgc
      have y21 : wc.cell? ⟨b2, 1, none⟩ = some (.float .f64 ch1) := up_cell (by go_simp) hgc
      have y22 : wc.cell? ⟨b2, 2, none⟩ = some (.float .f64 ch2) := up_cell (by go_simp) hgc
      have GG := ((((((G.setCell (p := ⟨b1, 0, none⟩) lb1 _).setCell (p := ⟨b1, 1, none⟩) lb1 _).setCell (p := ⟨b1, 2, none⟩) lb1 _).setCell (p := ⟨b2, 0, none⟩) lb2 _).setCell (p := ⟨b2, 1, none⟩) lb2 _).setCell (p := ⟨b2, 2, none⟩) lb2 _).trans hgc
      clear G hgc g0 k0 g1 k1 g2 k2 g3 k3 g4 k4 g5 k5 p10 p20 r10 r20 p11 p21 r11 r21 p12 p22 r12 r22
      go_wp2
      go_ret
      exact ⟨rfl, GG⟩
    | false =>
    cases t2 : (FloatKind.f64.format.order z t == some .gt || FloatKind.f64.format.order z t == some .eq) with
    | true =>
      rw [t0] at le0
      rw [t1] at le1
      rw [t2] at le2
      have R : Hid (((FloatKind.f64.format.order x u == some .gt || FloatKind.f64.format.order x u == some .eq) || ((FloatKind.f64.format.order y v == some .gt || FloatKind.f64.format.order y v == some .eq) || (FloatKind.f64.format.order z t == some .gt || FloatKind.f64.format.order z t == some .eq))) = true) := by show _ = _; simp [t0, t1, t2]
      go_enter Try.func9, Try.ntmps9
      go_wp2_with (go_at_call 15; refine (whole3_calls _ 0 _ [(x, y, z), (u, v, t)] _ (p3cells_2 _ _ _ _ _ _ _ _ (by go_simp) (by go_simp) (by go_simp) (by go_simp) (by go_simp) (by go_simp)) (by simp)).mono ?_; rintro e wa ⟨rfl, hga⟩; rw [HB.out]; have k0 : wa.cell? ⟨w.heap.size, 0, none⟩ = some (.float .f64 x) := up_cell (by go_simp) hga; have k1 : wa.cell? ⟨w.heap.size, 1, none⟩ = some (.float .f64 y) := up_cell (by go_simp) hga; have k2 : wa.cell? ⟨w.heap.size, 2, none⟩ = some (.float .f64 z) := up_cell (by go_simp) hga; have k3 : wa.cell? ⟨w.heap.size + 1, 0, none⟩ = some (.float .f64 u) := up_cell (by go_simp) hga; have k4 : wa.cell? ⟨w.heap.size + 1, 1, none⟩ = some (.float .f64 v) := up_cell (by go_simp) hga; have k5 : wa.cell? ⟨w.heap.size + 1, 2, none⟩ = some (.float .f64 t) := up_cell (by go_simp) hga)
      have hsz : w.heap.size + 1 + 1 + 1 ≤ wa.heap.size := by simpa using hga.size
      refine (box3_calls _ _ _ _ _ _ _).mono ?_; rintro e wb ⟨rfl, hgb⟩
      have e0 := up_cell k0 hgb
      have e1 := up_cell k1 hgb
      have e2 := up_cell k2 hgb
      have e3 := up_cell k3 hgb
      have e4 := up_cell k4 hgb
      have e5 := up_cell k5 hgb
      clear k0 k1 k2 k3 k4 k5
      have hsz2 := hgb.size
      go_wp2_with fail
      refine wp_region_grow_tail 6 (fun i => if i = 1 then some (fun _ _ => (fun V _ => V = P3V z0 z1 z2)) else if i = 3 then some (fun _ _ => (fun V _ => V = P3V ch0 ch1 ch2)) else if i = 4 then some (FreshP 3 (wb.heap.size + 1)) else if i = 5 then some (FreshP 3 (wb.heap.size + 1)) else none) (by kernel_rfl) (by kernel_rfl) ?_ ?_
      · intro i Φ h lo hi v
        (repeat' split at h) <;> cases h
        · exact fun _ _ h _ => h
        · exact fun _ _ h _ => h
        · exact FreshP.up
        · exact FreshP.up
      simp only [List.take_succ_cons, List.take_zero, List.drop_succ_cons, List.drop_zero]
      repeat (first
        | (refine wpGrow_skip (by rfl) ?_; simp only [Act.put, List.setIfInBounds_toArray, List.set_cons_zero, List.set_cons_succ, Nat.reduceAdd])
        | (refine wpGrow_det' (by rfl) (by rfl) ?_; apply Exists.intro; refine ⟨fun w' hc hh => ?_, ?_⟩; (have hcell := grow_cell hc; clear hc hh; go_simp; rfl); simp only [Act.put, List.setIfInBounds_toArray, List.set_cons_zero, List.set_cons_succ, Nat.reduceAdd]))
      refine wpGrow_eff' (by rfl) (by rfl) (fun w' hc hh => ?_) (fun v lo hi w' hap hc hh hv => ?_)
      · clear hc hh
        go_simp
        go_at_call 28
        refine (K1.out _).mono ?_
        rintro e w2 ⟨rfl, hg⟩
        exact EffPost.mk hg rfl
      obtain rfl := hv
      clear hc hh hap w'
      simp only [Act.put, List.setIfInBounds_toArray, List.set_cons_zero, List.set_cons_succ, Nat.reduceAdd]
      repeat (first
        | (refine wpGrow_skip (by rfl) ?_; simp only [Act.put, List.setIfInBounds_toArray, List.set_cons_zero, List.set_cons_succ, Nat.reduceAdd])
        | (refine wpGrow_det' (by rfl) (by rfl) ?_; apply Exists.intro; refine ⟨fun w' hc hh => ?_, ?_⟩; (have hcell := grow_cell hc; clear hc hh; go_simp; rfl); simp only [Act.put, List.setIfInBounds_toArray, List.set_cons_zero, List.set_cons_succ, Nat.reduceAdd]))
      refine wpGrow_eff' (by rfl) (by rfl) (fun w' hc hh => ?_) (fun v lo hi w' hap hc hh hv => ?_)
      · clear hc hh
        go_simp
        go_at_call 29
        refine (K2.out _).mono ?_
        rintro e w2 ⟨rfl, hg⟩
        exact EffPost.mk hg rfl
      obtain rfl := hv
      clear hc hh hap w'
      simp only [Act.put, List.setIfInBounds_toArray, List.set_cons_zero, List.set_cons_succ, Nat.reduceAdd]
      repeat (first
        | (refine wpGrow_skip (by rfl) ?_; simp only [Act.put, List.setIfInBounds_toArray, List.set_cons_zero, List.set_cons_succ, Nat.reduceAdd])
        | (refine wpGrow_det' (by rfl) (by rfl) ?_; apply Exists.intro; refine ⟨fun w' hc hh => ?_, ?_⟩; (have hcell := grow_cell hc; clear hc hh; go_simp; rfl); simp only [Act.put, List.setIfInBounds_toArray, List.set_cons_zero, List.set_cons_succ, Nat.reduceAdd]))
      refine wpGrow_eff' (by rfl) (by rfl) (fun w' hc hh => ?_) (fun v lo hi w' hap hc hh hv => ?_)
      · have hs : wb.heap.size + 1 ≤ w'.heap.size := by simpa using hc.size
        clear hc hh
        go_simp
        exact EffVal.mk ((Grow.refl _).alloc _) ⟨_, rfl, hs, Nat.le_refl _, by simp, all3 ⟨by go_simp, by go_simp⟩ ⟨by go_simp, by go_simp⟩ ⟨by go_simp, by go_simp⟩⟩
      obtain ⟨b1, rfl, m1, l1, u1, -⟩ := hv
      clear hc hh hap w'
      simp only [Act.put, List.setIfInBounds_toArray, List.set_cons_zero, List.set_cons_succ, Nat.reduceAdd]
      repeat (first
        | (refine wpGrow_skip (by rfl) ?_; simp only [Act.put, List.setIfInBounds_toArray, List.set_cons_zero, List.set_cons_succ, Nat.reduceAdd])
        | (refine wpGrow_det' (by rfl) (by rfl) ?_; apply Exists.intro; refine ⟨fun w' hc hh => ?_, ?_⟩; (have hcell := grow_cell hc; clear hc hh; go_simp; rfl); simp only [Act.put, List.setIfInBounds_toArray, List.set_cons_zero, List.set_cons_succ, Nat.reduceAdd]))
      refine wpGrow_eff' (by rfl) (by rfl) (fun w' hc hh => ?_) (fun v lo hi w' hap hc hh hv => ?_)
      · have hs : wb.heap.size + 1 ≤ w'.heap.size := by simpa using hc.size
        clear hc hh
        go_simp
        exact EffVal.mk ((Grow.refl _).alloc _) ⟨_, rfl, hs, Nat.le_refl _, by simp, all3 ⟨by go_simp, by go_simp⟩ ⟨by go_simp, by go_simp⟩ ⟨by go_simp, by go_simp⟩⟩
      obtain ⟨b2, rfl, m2, l2, u2, -⟩ := hv
      have hne : b1 ≠ b2 := by have := hap 4 _ _ rfl; omega
      clear hc hh hap w'
      simp only [Act.put, List.setIfInBounds_toArray, List.set_cons_zero, List.set_cons_succ, Nat.reduceAdd]
      repeat (first
        | (refine wpGrow_skip (by rfl) ?_; simp only [Act.put, List.setIfInBounds_toArray, List.set_cons_zero, List.set_cons_succ, Nat.reduceAdd])
        | (refine wpGrow_det' (by rfl) (by rfl) ?_; apply Exists.intro; refine ⟨fun w' hc hh => ?_, ?_⟩; (have hcell := grow_cell hc; clear hc hh; go_simp; rfl); simp only [Act.put, List.setIfInBounds_toArray, List.set_cons_zero, List.set_cons_succ, Nat.reduceAdd]))
      refine wpGrow_nil ?_
      intro w1 hg hh
      obtain ⟨b1', q1, -, -, -, n1⟩ := (hh 4).1
      obtain ⟨b2', q2, -, -, -, n2⟩ := (hh 5).1
      cases q1; cases q2
      obtain ⟨p10, r10⟩ := n1 0 (by omega)
      obtain ⟨p11, r11⟩ := n1 1 (by omega)
      obtain ⟨p12, r12⟩ := n1 2 (by omega)
      obtain ⟨p20, r20⟩ := n2 0 (by omega)
      obtain ⟨p21, r21⟩ := n2 1 (by omega)
      obtain ⟨p22, r22⟩ := n2 2 (by omega)
      have g0 := up_cell e0 (((Grow.refl wb).alloc _).trans hg)
      have g1 := up_cell e1 (((Grow.refl wb).alloc _).trans hg)
      have g2 := up_cell e2 (((Grow.refl wb).alloc _).trans hg)
      have g3 := up_cell e3 (((Grow.refl wb).alloc _).trans hg)
      have g4 := up_cell e4 (((Grow.refl wb).alloc _).trans hg)
      have g5 := up_cell e5 (((Grow.refl wb).alloc _).trans hg)
      have k0 : w1.cell? ⟨wb.heap.size, 0, none⟩ = some (.float .f64 x) := up_cell (by go_simp) hg
      have k1 : w1.cell? ⟨wb.heap.size, 1, none⟩ = some (.float .f64 y) := up_cell (by go_simp) hg
      have k2 : w1.cell? ⟨wb.heap.size, 2, none⟩ = some (.float .f64 z) := up_cell (by go_simp) hg
      have k3 : w1.cell? ⟨wb.heap.size, 3, none⟩ = some (.float .f64 u) := up_cell (by go_simp) hg
      have k4 : w1.cell? ⟨wb.heap.size, 4, none⟩ = some (.float .f64 v) := up_cell (by go_simp) hg
      have k5 : w1.cell? ⟨wb.heap.size, 5, none⟩ = some (.float .f64 t) := up_cell (by go_simp) hg
      have ne1 : ¬ b1 = b2 := hne
      have ne2 : ¬ b2 = b1 := fun h => hne h.symm
      have nx1 : ¬ b1 = w.heap.size := by omega
      have ny1 : ¬ b1 = w.heap.size + 1 := by omega
      have nz1 : ¬ b1 = wb.heap.size := by omega
      have nx2 : ¬ b2 = w.heap.size := by omega
      have ny2 : ¬ b2 = w.heap.size + 1 := by omega
      have nz2 : ¬ b2 = wb.heap.size := by omega
      have G : Grow w w1 := (((((((Grow.refl w).alloc _).alloc _).alloc _).trans hga).trans hgb).alloc _).trans hg
      have lb1 : w.heap.size ≤ b1 := by omega
      have lb2 : w.heap.size ≤ b2 := by omega
      clear hh hg n1 n2 hne e0 e1 e2 e3 e4 e5 m1 m2 l1 l2 u1 u2 hsz hsz2 hga hgb
      go_wp2_with fail
      refine (K3.out _).mono ?_; rintro e wc ⟨rfl, hgc⟩
      rw [R.out]
      have v0 : wc.cell? ⟨w.heap.size, 0, none⟩ = some (.float .f64 x) := up_cell (by go_simp) hgc
      have v1 : wc.cell? ⟨w.heap.size, 1, none⟩ = some (.float .f64 y) := up_cell (by go_simp) hgc
      have v2 : wc.cell? ⟨w.heap.size, 2, none⟩ = some (.float .f64 z) := up_cell (by go_simp) hgc
      have v3 : wc.cell? ⟨w.heap.size + 1, 0, none⟩ = some (.float .f64 u) := up_cell (by go_simp) hgc
      have v4 : wc.cell? ⟨w.heap.size + 1, 1, none⟩ = some (.float .f64 v) := up_cell (by go_simp) hgc
      have v5 : wc.cell? ⟨w.heap.size + 1, 2, none⟩ = some (.float .f64 t) := up_cell (by go_simp) hgc
      have y10 : wc.cell? ⟨b1, 0, none⟩ = some (.float .f64 z0) := up_cell (by go_simp) hgc
      have y11 : wc.cell? ⟨b1, 1, none⟩ = some (.float .f64 z1) := up_cell (by go_simp) hgc
      have y12 : wc.cell? ⟨b1, 2, none⟩ = some (.float .f64 z2) := up_cell (by go_simp) hgc
      have y20 : wc.cell? ⟨b2, 0, none⟩ = some (.float .f64 ch0) := up_cell (by go_simp) hgc
      have y21 : wc.cell? ⟨b2, 1, none⟩ = some (.float .f64 ch1) := up_cell (by go_simp) hgc
      have y22 : wc.cell? ⟨b2, 2, none⟩ = some (.float .f64 ch2) := up_cell (by go_simp) hgc
      have GG := ((((((G.setCell (p := ⟨b1, 0, none⟩) lb1 _).setCell (p := ⟨b1, 1, none⟩) lb1 _).setCell (p := ⟨b1, 2, none⟩) lb1 _).setCell (p := ⟨b2, 0, none⟩) lb2 _).setCell (p := ⟨b2, 1, none⟩) lb2 _).setCell (p := ⟨b2, 2, none⟩) lb2 _).trans hgc
      clear G hgc g0 k0 g1 k1 g2 k2 g3 k3 g4 k4 g5 k5 p10 p20 r10 r20 p11 p21 r11 r21 p12 p22 r12 r22
      go_wp2
      go_ret
      exact ⟨rfl, GG⟩
    | false =>
    rw [t0] at le0
    rw [t1] at le1
    rw [t2] at le2
    have R : Hid (((FloatKind.f64.format.order x u == some .gt || FloatKind.f64.format.order x u == some .eq) || ((FloatKind.f64.format.order y v == some .gt || FloatKind.f64.format.order y v == some .eq) || (FloatKind.f64.format.order z t == some .gt || FloatKind.f64.format.order z t == some .eq))) = false) := by show _ = _; simp [t0, t1, t2]
    go_enter Try.func9, Try.ntmps9
    go_wp2_with (go_at_call 15; refine (whole3_calls _ 0 _ [(x, y, z), (u, v, t)] _ (p3cells_2 _ _ _ _ _ _ _ _ (by go_simp) (by go_simp) (by go_simp) (by go_simp) (by go_simp) (by go_simp)) (by simp)).mono ?_; rintro e wa ⟨rfl, hga⟩; rw [HB.out]; have k0 : wa.cell? ⟨w.heap.size, 0, none⟩ = some (.float .f64 x) := up_cell (by go_simp) hga; have k1 : wa.cell? ⟨w.heap.size, 1, none⟩ = some (.float .f64 y) := up_cell (by go_simp) hga; have k2 : wa.cell? ⟨w.heap.size, 2, none⟩ = some (.float .f64 z) := up_cell (by go_simp) hga; have k3 : wa.cell? ⟨w.heap.size + 1, 0, none⟩ = some (.float .f64 u) := up_cell (by go_simp) hga; have k4 : wa.cell? ⟨w.heap.size + 1, 1, none⟩ = some (.float .f64 v) := up_cell (by go_simp) hga; have k5 : wa.cell? ⟨w.heap.size + 1, 2, none⟩ = some (.float .f64 t) := up_cell (by go_simp) hga)
    have hsz : w.heap.size + 1 + 1 + 1 ≤ wa.heap.size := by simpa using hga.size
    refine (box3_calls _ _ _ _ _ _ _).mono ?_; rintro e wb ⟨rfl, hgb⟩
    have e0 := up_cell k0 hgb
    have e1 := up_cell k1 hgb
    have e2 := up_cell k2 hgb
    have e3 := up_cell k3 hgb
    have e4 := up_cell k4 hgb
    have e5 := up_cell k5 hgb
    clear k0 k1 k2 k3 k4 k5
    have hsz2 := hgb.size
    go_wp2_with fail
    refine wp_region_grow_tail 6 (fun i => if i = 1 then some (fun _ _ => (fun V _ => V = P3V z0 z1 z2)) else if i = 3 then some (fun _ _ => (fun V _ => V = P3V ch0 ch1 ch2)) else if i = 4 then some (FreshP 3 (wb.heap.size + 1)) else if i = 5 then some (FreshP 3 (wb.heap.size + 1)) else none) (by kernel_rfl) (by kernel_rfl) ?_ ?_
    · intro i Φ h lo hi v
      (repeat' split at h) <;> cases h
      · exact fun _ _ h _ => h
      · exact fun _ _ h _ => h
      · exact FreshP.up
      · exact FreshP.up
    simp only [List.take_succ_cons, List.take_zero, List.drop_succ_cons, List.drop_zero]
    repeat (first
      | (refine wpGrow_skip (by rfl) ?_; simp only [Act.put, List.setIfInBounds_toArray, List.set_cons_zero, List.set_cons_succ, Nat.reduceAdd])
      | (refine wpGrow_det' (by rfl) (by rfl) ?_; apply Exists.intro; refine ⟨fun w' hc hh => ?_, ?_⟩; (have hcell := grow_cell hc; clear hc hh; go_simp; rfl); simp only [Act.put, List.setIfInBounds_toArray, List.set_cons_zero, List.set_cons_succ, Nat.reduceAdd]))
    refine wpGrow_eff' (by rfl) (by rfl) (fun w' hc hh => ?_) (fun v lo hi w' hap hc hh hv => ?_)
    · clear hc hh
      go_simp
      go_at_call 28
      refine (K1.out _).mono ?_
      rintro e w2 ⟨rfl, hg⟩
      exact EffPost.mk hg rfl
    obtain rfl := hv
    clear hc hh hap w'
    simp only [Act.put, List.setIfInBounds_toArray, List.set_cons_zero, List.set_cons_succ, Nat.reduceAdd]
    repeat (first
      | (refine wpGrow_skip (by rfl) ?_; simp only [Act.put, List.setIfInBounds_toArray, List.set_cons_zero, List.set_cons_succ, Nat.reduceAdd])
      | (refine wpGrow_det' (by rfl) (by rfl) ?_; apply Exists.intro; refine ⟨fun w' hc hh => ?_, ?_⟩; (have hcell := grow_cell hc; clear hc hh; go_simp; rfl); simp only [Act.put, List.setIfInBounds_toArray, List.set_cons_zero, List.set_cons_succ, Nat.reduceAdd]))
    refine wpGrow_eff' (by rfl) (by rfl) (fun w' hc hh => ?_) (fun v lo hi w' hap hc hh hv => ?_)
    · clear hc hh
      go_simp
      go_at_call 29
      refine (K2.out _).mono ?_
      rintro e w2 ⟨rfl, hg⟩
      exact EffPost.mk hg rfl
    obtain rfl := hv
    clear hc hh hap w'
    simp only [Act.put, List.setIfInBounds_toArray, List.set_cons_zero, List.set_cons_succ, Nat.reduceAdd]
    repeat (first
      | (refine wpGrow_skip (by rfl) ?_; simp only [Act.put, List.setIfInBounds_toArray, List.set_cons_zero, List.set_cons_succ, Nat.reduceAdd])
      | (refine wpGrow_det' (by rfl) (by rfl) ?_; apply Exists.intro; refine ⟨fun w' hc hh => ?_, ?_⟩; (have hcell := grow_cell hc; clear hc hh; go_simp; rfl); simp only [Act.put, List.setIfInBounds_toArray, List.set_cons_zero, List.set_cons_succ, Nat.reduceAdd]))
    refine wpGrow_eff' (by rfl) (by rfl) (fun w' hc hh => ?_) (fun v lo hi w' hap hc hh hv => ?_)
    · have hs : wb.heap.size + 1 ≤ w'.heap.size := by simpa using hc.size
      clear hc hh
      go_simp
      exact EffVal.mk ((Grow.refl _).alloc _) ⟨_, rfl, hs, Nat.le_refl _, by simp, all3 ⟨by go_simp, by go_simp⟩ ⟨by go_simp, by go_simp⟩ ⟨by go_simp, by go_simp⟩⟩
    obtain ⟨b1, rfl, m1, l1, u1, -⟩ := hv
    clear hc hh hap w'
    simp only [Act.put, List.setIfInBounds_toArray, List.set_cons_zero, List.set_cons_succ, Nat.reduceAdd]
    repeat (first
      | (refine wpGrow_skip (by rfl) ?_; simp only [Act.put, List.setIfInBounds_toArray, List.set_cons_zero, List.set_cons_succ, Nat.reduceAdd])
      | (refine wpGrow_det' (by rfl) (by rfl) ?_; apply Exists.intro; refine ⟨fun w' hc hh => ?_, ?_⟩; (have hcell := grow_cell hc; clear hc hh; go_simp; rfl); simp only [Act.put, List.setIfInBounds_toArray, List.set_cons_zero, List.set_cons_succ, Nat.reduceAdd]))
    refine wpGrow_eff' (by rfl) (by rfl) (fun w' hc hh => ?_) (fun v lo hi w' hap hc hh hv => ?_)
    · have hs : wb.heap.size + 1 ≤ w'.heap.size := by simpa using hc.size
      clear hc hh
      go_simp
      exact EffVal.mk ((Grow.refl _).alloc _) ⟨_, rfl, hs, Nat.le_refl _, by simp, all3 ⟨by go_simp, by go_simp⟩ ⟨by go_simp, by go_simp⟩ ⟨by go_simp, by go_simp⟩⟩
    obtain ⟨b2, rfl, m2, l2, u2, -⟩ := hv
    have hne : b1 ≠ b2 := by have := hap 4 _ _ rfl; omega
    clear hc hh hap w'
    simp only [Act.put, List.setIfInBounds_toArray, List.set_cons_zero, List.set_cons_succ, Nat.reduceAdd]
    repeat (first
      | (refine wpGrow_skip (by rfl) ?_; simp only [Act.put, List.setIfInBounds_toArray, List.set_cons_zero, List.set_cons_succ, Nat.reduceAdd])
      | (refine wpGrow_det' (by rfl) (by rfl) ?_; apply Exists.intro; refine ⟨fun w' hc hh => ?_, ?_⟩; (have hcell := grow_cell hc; clear hc hh; go_simp; rfl); simp only [Act.put, List.setIfInBounds_toArray, List.set_cons_zero, List.set_cons_succ, Nat.reduceAdd]))
    refine wpGrow_nil ?_
    intro w1 hg hh
    obtain ⟨b1', q1, -, -, -, n1⟩ := (hh 4).1
    obtain ⟨b2', q2, -, -, -, n2⟩ := (hh 5).1
    cases q1; cases q2
    obtain ⟨p10, r10⟩ := n1 0 (by omega)
    obtain ⟨p11, r11⟩ := n1 1 (by omega)
    obtain ⟨p12, r12⟩ := n1 2 (by omega)
    obtain ⟨p20, r20⟩ := n2 0 (by omega)
    obtain ⟨p21, r21⟩ := n2 1 (by omega)
    obtain ⟨p22, r22⟩ := n2 2 (by omega)
    have g0 := up_cell e0 (((Grow.refl wb).alloc _).trans hg)
    have g1 := up_cell e1 (((Grow.refl wb).alloc _).trans hg)
    have g2 := up_cell e2 (((Grow.refl wb).alloc _).trans hg)
    have g3 := up_cell e3 (((Grow.refl wb).alloc _).trans hg)
    have g4 := up_cell e4 (((Grow.refl wb).alloc _).trans hg)
    have g5 := up_cell e5 (((Grow.refl wb).alloc _).trans hg)
    have k0 : w1.cell? ⟨wb.heap.size, 0, none⟩ = some (.float .f64 x) := up_cell (by go_simp) hg
    have k1 : w1.cell? ⟨wb.heap.size, 1, none⟩ = some (.float .f64 y) := up_cell (by go_simp) hg
    have k2 : w1.cell? ⟨wb.heap.size, 2, none⟩ = some (.float .f64 z) := up_cell (by go_simp) hg
    have k3 : w1.cell? ⟨wb.heap.size, 3, none⟩ = some (.float .f64 u) := up_cell (by go_simp) hg
    have k4 : w1.cell? ⟨wb.heap.size, 4, none⟩ = some (.float .f64 v) := up_cell (by go_simp) hg
    have k5 : w1.cell? ⟨wb.heap.size, 5, none⟩ = some (.float .f64 t) := up_cell (by go_simp) hg
    have ne1 : ¬ b1 = b2 := hne
    have ne2 : ¬ b2 = b1 := fun h => hne h.symm
    have nx1 : ¬ b1 = w.heap.size := by omega
    have ny1 : ¬ b1 = w.heap.size + 1 := by omega
    have nz1 : ¬ b1 = wb.heap.size := by omega
    have nx2 : ¬ b2 = w.heap.size := by omega
    have ny2 : ¬ b2 = w.heap.size + 1 := by omega
    have nz2 : ¬ b2 = wb.heap.size := by omega
    have G : Grow w w1 := (((((((Grow.refl w).alloc _).alloc _).alloc _).trans hga).trans hgb).alloc _).trans hg
    have lb1 : w.heap.size ≤ b1 := by omega
    have lb2 : w.heap.size ≤ b2 := by omega
    clear hh hg n1 n2 hne e0 e1 e2 e3 e4 e5 m1 m2 l1 l2 u1 u2 hsz hsz2 hga hgb
    go_wp2_with fail
    refine (K3.out _).mono ?_; rintro e wc ⟨rfl, hgc⟩
    rw [R.out]
    have v0 : wc.cell? ⟨w.heap.size, 0, none⟩ = some (.float .f64 x) := up_cell (by go_simp) hgc
    have v1 : wc.cell? ⟨w.heap.size, 1, none⟩ = some (.float .f64 y) := up_cell (by go_simp) hgc
    have v2 : wc.cell? ⟨w.heap.size, 2, none⟩ = some (.float .f64 z) := up_cell (by go_simp) hgc
    have v3 : wc.cell? ⟨w.heap.size + 1, 0, none⟩ = some (.float .f64 u) := up_cell (by go_simp) hgc
    have v4 : wc.cell? ⟨w.heap.size + 1, 1, none⟩ = some (.float .f64 v) := up_cell (by go_simp) hgc
    have v5 : wc.cell? ⟨w.heap.size + 1, 2, none⟩ = some (.float .f64 t) := up_cell (by go_simp) hgc
    have y10 : wc.cell? ⟨b1, 0, none⟩ = some (.float .f64 z0) := up_cell (by go_simp) hgc
    have y11 : wc.cell? ⟨b1, 1, none⟩ = some (.float .f64 z1) := up_cell (by go_simp) hgc
    have y12 : wc.cell? ⟨b1, 2, none⟩ = some (.float .f64 z2) := up_cell (by go_simp) hgc
    have y20 : wc.cell? ⟨b2, 0, none⟩ = some (.float .f64 ch0) := up_cell (by go_simp) hgc
    have y21 : wc.cell? ⟨b2, 1, none⟩ = some (.float .f64 ch1) := up_cell (by go_simp) hgc
    have y22 : wc.cell? ⟨b2, 2, none⟩ = some (.float .f64 ch2) := up_cell (by go_simp) hgc
    have GG := ((((((G.setCell (p := ⟨b1, 0, none⟩) lb1 _).setCell (p := ⟨b1, 1, none⟩) lb1 _).setCell (p := ⟨b1, 2, none⟩) lb1 _).setCell (p := ⟨b2, 0, none⟩) lb2 _).setCell (p := ⟨b2, 1, none⟩) lb2 _).setCell (p := ⟨b2, 2, none⟩) lb2 _).trans hgc
    clear G hgc g0 k0 g1 k1 g2 k2 g3 k3 g4 k4 g5 k5 p10 p20 r10 r20 p11 p21 r11 r21 p12 p22 r12 r22
    go_wp2
    go_ret
    exact ⟨rfl, GG⟩
end Go.Proofs.Ytincapjbhbmeiaa
