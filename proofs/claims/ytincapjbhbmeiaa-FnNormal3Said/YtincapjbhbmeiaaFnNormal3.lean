import Derived.Test.YtincapjbhbmeiaaNormalA
namespace Go.Proofs.Ytincapjbhbmeiaa
open Go.ChangeShapes Go.WideShapes Go.ChangeAt Go.RowKit Go.GrowR
set_option linter.unusedVariables false
set_option linter.unusedSimpArgs false

def Tri (x y z b : Nat) (w : World) : Prop := w.cell? ⟨b, 0, none⟩ = some (.float .f64 x) ∧ w.cell? ⟨b, 1, none⟩ = some (.float .f64 y) ∧ w.cell? ⟨b, 2, none⟩ = some (.float .f64 z)
theorem Tri.up {x y z b : Nat} : Up (Tri x y z b) := fun _ _ ⟨h0, h1, h2⟩ hg => ⟨up_cell h0 hg, up_cell h1 hg, up_cell h2 hg⟩
theorem cell_keep {w : World} {p q : Addr} {u v : Value} (hp : w.cell? p = some v) (hv : q = p → u = v) : (w.setCell q u).cell? p = some v := by
  by_cases h : q = p
  · rw [hv h]; subst h; exact World.cell?_setCell_same _ _ _ hp
  · rw [World.cell?_setCell_other _ _ _ _ h]; exact hp
theorem Tri.set0 {x y z b c : Nat} {w : World} (h : Tri x y z b w) : Tri x y z b (w.setCell ⟨c, 0, none⟩ (.float .f64 x)) := ⟨cell_keep h.1 (fun _ => rfl), cell_keep h.2.1 (fun e => by simp at e), cell_keep h.2.2 (fun e => by simp at e)⟩
theorem Tri.set1 {x y z b c : Nat} {w : World} (h : Tri x y z b w) : Tri x y z b (w.setCell ⟨c, 1, none⟩ (.float .f64 y)) := ⟨cell_keep h.1 (fun e => by simp at e), cell_keep h.2.1 (fun _ => rfl), cell_keep h.2.2 (fun e => by simp at e)⟩
theorem Tri.set2 {x y z b c : Nat} {w : World} (h : Tri x y z b w) : Tri x y z b (w.setCell ⟨c, 2, none⟩ (.float .f64 z)) := ⟨cell_keep h.1 (fun e => by simp at e), cell_keep h.2.1 (fun e => by simp at e), cell_keep h.2.2 (fun _ => rfl)⟩
theorem cell_lt' {w : World} {a : Addr} {v : Value} (h : w.cell? a = some v) : a.block < w.heap.size := by
  rcases Nat.lt_or_ge a.block w.heap.size with h1 | h1
  · exact h1
  · unfold World.cell? at h
    rw [Array.getElem?_eq_none h1] at h
    simp at h
theorem tri_ups {x y z : Nat} : ∀ X, (∃ b, X = Tri x y z b) → Up X := fun X ⟨b, h⟩ => by rw [h]; exact Tri.up
def NewQ (B lo hi : Nat) (V : Value) (w : World) : Prop := ∃ b, V = .pointer (some ⟨b, 0, none⟩) ∧ B ≤ b ∧ lo ≤ b ∧ b < hi ∧ ∀ j, j < 3 → (w.cell? ⟨b, j, none⟩).isSome = true ∧ w.frozen? ⟨b, j, none⟩ = false
theorem some_lt {w : World} {k o : Nat} (hx : (w.cell? ⟨k, o, none⟩).isSome = true) : k < w.heap.size := by
  rcases Nat.lt_or_ge k w.heap.size with h1 | h1
  · exact h1
  · unfold World.cell? at hx
    rw [Array.getElem?_eq_none h1] at hx
    simp at hx
theorem NewQ.upX {B lo hi : Nat} {V : Value} {S : Nat → Prop} {Y : (World → Prop) → Prop} : UpR (GX S Y) (NewQ B lo hi V) := fun _ _ ⟨b, h1, h2, h3, h4, h5⟩ hg => ⟨b, h1, h2, h3, h4, fun j hj => ⟨hg.some (h5 j hj).1, (hg.froz _ _ (some_lt (h5 j hj).1)).trans (h5 j hj).2⟩⟩
def Put3 (x y z : Nat) (vs : List Value) (w : World) : Prop := ∃ b rest, vs = .pointer (some ⟨b, 0, none⟩) :: rest ∧ Tri x y z b w
theorem Put3.upX {x y z : Nat} {vs : List Value} {S : Nat → Prop} : UpR (GX S (fun X => ∃ b, X = Tri x y z b)) (Put3 x y z vs) := fun _ _ ⟨b, r, h1, h2⟩ hg => ⟨b, r, h1, hg.y _ ⟨b, rfl⟩ h2⟩
set_option maxHeartbeats 4000000 in
theorem fnNormal3_calls (x0 y0 z0 x1 y1 z1 x2 y2 z2 : Nat) (w : World) : Calls Try.prog 7 #[P3V x0 y0 z0, P3V x1 y1 z1, P3V x2 y2 z2] w fun e w' => e = .returned (.bool true) ∧ Grow w w' := by
  cases hb : gridB 262144 3 [[x0, y0, z0], [x1, y1, z1], [x2, y2, z2]] with
  | false =>
    have HB := Lib.hid hb; clear hb
    go_enter Try.func7, Try.ntmps7
    go_wp2
    refine wp_region_grow (fun i => if i = 1 then some (fun _ _ V w => FSl V [x0, y0, z0] w) else if i = 3 then some (fun _ _ V w => FSl V [x1, y1, z1] w) else if i = 5 then some (fun _ _ V w => FSl V [x2, y2, z2] w) else if i = 6 then some (fun _ _ V w => FSSl V [[x0, y0, z0], [x1, y1, z1], [x2, y2, z2]] w) else if i = 7 then some (fun _ _ => (fun V _ => V = .bool false)) else none) (by kernel_rfl) (by kernel_rfl) ?_ ?_
    · intro i Φ h lo hi v
      (repeat' split at h) <;> cases h
      · exact FSl.up
      · exact FSl.up
      · exact FSl.up
      · exact FSSl.up
      · exact fun _ _ h _ => h
    repeat (first
      | (refine wpGrow_skip (by rfl) ?_; simp only [Act.put, List.setIfInBounds_toArray, List.set_cons_zero, List.set_cons_succ, Nat.reduceAdd])
      | (refine wpGrow_det' (by rfl) (by rfl) ?_; apply Exists.intro; refine ⟨fun w' hc hh => ?_, ?_⟩; (have hcell := grow_cell hc; clear hc hh; go_simp; rfl); simp only [Act.put, List.setIfInBounds_toArray, List.set_cons_zero, List.set_cons_succ, Nat.reduceAdd]))
    refine wpGrow_eff' (by rfl) (by rfl) (fun w' hc hh => ?_) (fun v lo hi w' hap hc hh hv => ?_)
    · clear hc hh
      go_simp
      go_at_call 23
      refine (off3_calls _ _ _ _).mono ?_
      rintro e w2 ⟨rfl, rfl⟩
      exact EffPost.mk (((Grow.refl _).alloc _).alloc _) (fsl_3 (by go_simp) (by go_simp) (by go_simp))
    obtain ⟨A0, l0, rfl, -, -⟩ := hv
    clear hc hh hap w'
    simp only [Act.put, List.setIfInBounds_toArray, List.set_cons_zero, List.set_cons_succ, Nat.reduceAdd]
    repeat (first
      | (refine wpGrow_skip (by rfl) ?_; simp only [Act.put, List.setIfInBounds_toArray, List.set_cons_zero, List.set_cons_succ, Nat.reduceAdd])
      | (refine wpGrow_det' (by rfl) (by rfl) ?_; apply Exists.intro; refine ⟨fun w' hc hh => ?_, ?_⟩; (have hcell := grow_cell hc; clear hc hh; go_simp; rfl); simp only [Act.put, List.setIfInBounds_toArray, List.set_cons_zero, List.set_cons_succ, Nat.reduceAdd]))
    refine wpGrow_eff' (by rfl) (by rfl) (fun w' hc hh => ?_) (fun v lo hi w' hap hc hh hv => ?_)
    · clear hc hh
      go_simp
      go_at_call 23
      refine (off3_calls _ _ _ _).mono ?_
      rintro e w2 ⟨rfl, rfl⟩
      exact EffPost.mk (((Grow.refl _).alloc _).alloc _) (fsl_3 (by go_simp) (by go_simp) (by go_simp))
    obtain ⟨A1, l1, rfl, -, -⟩ := hv
    clear hc hh hap w'
    simp only [Act.put, List.setIfInBounds_toArray, List.set_cons_zero, List.set_cons_succ, Nat.reduceAdd]
    repeat (first
      | (refine wpGrow_skip (by rfl) ?_; simp only [Act.put, List.setIfInBounds_toArray, List.set_cons_zero, List.set_cons_succ, Nat.reduceAdd])
      | (refine wpGrow_det' (by rfl) (by rfl) ?_; apply Exists.intro; refine ⟨fun w' hc hh => ?_, ?_⟩; (have hcell := grow_cell hc; clear hc hh; go_simp; rfl); simp only [Act.put, List.setIfInBounds_toArray, List.set_cons_zero, List.set_cons_succ, Nat.reduceAdd]))
    refine wpGrow_eff' (by rfl) (by rfl) (fun w' hc hh => ?_) (fun v lo hi w' hap hc hh hv => ?_)
    · clear hc hh
      go_simp
      go_at_call 23
      refine (off3_calls _ _ _ _).mono ?_
      rintro e w2 ⟨rfl, rfl⟩
      exact EffPost.mk (((Grow.refl _).alloc _).alloc _) (fsl_3 (by go_simp) (by go_simp) (by go_simp))
    obtain ⟨A2, l2, rfl, -, -⟩ := hv
    clear hc hh hap w'
    simp only [Act.put, List.setIfInBounds_toArray, List.set_cons_zero, List.set_cons_succ, Nat.reduceAdd]
    repeat (first
      | (refine wpGrow_skip (by rfl) ?_; simp only [Act.put, List.setIfInBounds_toArray, List.set_cons_zero, List.set_cons_succ, Nat.reduceAdd])
      | (refine wpGrow_det' (by rfl) (by rfl) ?_; apply Exists.intro; refine ⟨fun w' hc hh => ?_, ?_⟩; (have hcell := grow_cell hc; clear hc hh; go_simp; rfl); simp only [Act.put, List.setIfInBounds_toArray, List.set_cons_zero, List.set_cons_succ, Nat.reduceAdd]))
    refine wpGrow_eff' (by rfl) (by rfl) (fun w' hc hh => ?_) (fun v lo hi w' hap hc hh hv => ?_)
    · have H0 := hh 1 (anc_of 8 (by kernel_rfl))
      have H1 := hh 3 (anc_of 8 (by kernel_rfl))
      have H2 := hh 5 (anc_of 8 (by kernel_rfl))
      have H0 := Lib.hid H0
      clear hc hh
      go_simp
      exact EffVal.mk ((Grow.refl _).alloc _) (fssl_3 (by go_simp) (by go_simp) (by go_simp) (FSl.up _ _ H0.out ((Grow.refl _).alloc _)) (FSl.up _ _ H1 ((Grow.refl _).alloc _)) (FSl.up _ _ H2 ((Grow.refl _).alloc _)))
    obtain ⟨A3, l3, rfl, -, -⟩ := hv
    clear hc hh hap w'
    simp only [Act.put, List.setIfInBounds_toArray, List.set_cons_zero, List.set_cons_succ, Nat.reduceAdd]
    repeat (first
      | (refine wpGrow_skip (by rfl) ?_; simp only [Act.put, List.setIfInBounds_toArray, List.set_cons_zero, List.set_cons_succ, Nat.reduceAdd])
      | (refine wpGrow_det' (by rfl) (by rfl) ?_; apply Exists.intro; refine ⟨fun w' hc hh => ?_, ?_⟩; (have hcell := grow_cell hc; clear hc hh; go_simp; rfl); simp only [Act.put, List.setIfInBounds_toArray, List.set_cons_zero, List.set_cons_succ, Nat.reduceAdd]))
    refine wpGrow_eff' (by rfl) (by rfl) (fun w' hc hh => ?_) (fun v lo hi w' hap hc hh hv => ?_)
    · have H0 := hh 6 (anc_of 9 (by kernel_rfl))
      have H0 := Lib.hid H0
      clear hc hh
      go_simp
      go_at_call 22
      refine (grid_calls _ [[x0, y0, z0], [x1, y1, z1], [x2, y2, z2]] 3 _ 262144 _ H0.out isI_18 (by decide) (by decide) (by simp) (by simp) (by decide)).mono ?_
      rintro e w2 ⟨rfl, rfl⟩
      exact EffPost.mk (Grow.refl _) (by rw [HB.out])
    obtain rfl := hv
    clear hc hh hap w'
    simp only [Act.put, List.setIfInBounds_toArray, List.set_cons_zero, List.set_cons_succ, Nat.reduceAdd]
    repeat (first
      | (refine wpGrow_skip (by rfl) ?_; simp only [Act.put, List.setIfInBounds_toArray, List.set_cons_zero, List.set_cons_succ, Nat.reduceAdd])
      | (refine wpGrow_det' (by rfl) (by rfl) ?_; apply Exists.intro; refine ⟨fun w' hc hh => ?_, ?_⟩; (have hcell := grow_cell hc; clear hc hh; go_simp; rfl); simp only [Act.put, List.setIfInBounds_toArray, List.set_cons_zero, List.set_cons_succ, Nat.reduceAdd]))
    refine wpGrow_nil ?_
    intro w1 hg hh
    go_wp2
    go_ret
    exact ⟨rfl, ((((Grow.refl w).alloc _).alloc _).alloc _).trans hg⟩
  | true =>
    have HB := Lib.hid hb
    simp only [gridB, rowB, List.all_cons, List.all_nil, Bool.and_true, Bool.and_eq_true] at hb
    obtain ⟨⟨⟨-, gx0, gy0, gz0⟩, ⟨-, gx1, gy1, gz1⟩, ⟨-, gx2, gy2, gz2⟩⟩, -⟩ := hb
    obtain ⟨a0, hx0, lx0, ux0⟩ := Fl.wholeB_true gx0
    obtain ⟨b0, hy0, ly0, uy0⟩ := Fl.wholeB_true gy0
    obtain ⟨c0, hz0, lz0, uz0⟩ := Fl.wholeB_true gz0
    obtain ⟨a1, hx1, lx1, ux1⟩ := Fl.wholeB_true gx1
    obtain ⟨b1, hy1, ly1, uy1⟩ := Fl.wholeB_true gy1
    obtain ⟨c1, hz1, lz1, uz1⟩ := Fl.wholeB_true gz1
    obtain ⟨a2, hx2, lx2, ux2⟩ := Fl.wholeB_true gx2
    obtain ⟨b2, hy2, ly2, uy2⟩ := Fl.wholeB_true gy2
    obtain ⟨c2, hz2, lz2, uz2⟩ := Fl.wholeB_true gz2
    have K1 := Lib.hid (fun w => normal3_calls x0 y0 z0 x1 y1 z1 x2 y2 z2 a0 b0 c0 a1 b1 c1 a2 b2 c2 w hx0 ⟨lx0, ux0⟩ hy0 ⟨ly0, uy0⟩ hz0 ⟨lz0, uz0⟩ hx1 ⟨lx1, ux1⟩ hy1 ⟨ly1, uy1⟩ hz1 ⟨lz1, uz1⟩ hx2 ⟨lx2, ux2⟩ hy2 ⟨ly2, uy2⟩ hz2 ⟨lz2, uz2⟩)
    have K2 := Lib.hid (fun w => normal3_calls x0 y0 z0 x2 y2 z2 x1 y1 z1 a0 b0 c0 a2 b2 c2 a1 b1 c1 w hx0 ⟨lx0, ux0⟩ hy0 ⟨ly0, uy0⟩ hz0 ⟨lz0, uz0⟩ hx2 ⟨lx2, ux2⟩ hy2 ⟨ly2, uy2⟩ hz2 ⟨lz2, uz2⟩ hx1 ⟨lx1, ux1⟩ hy1 ⟨ly1, uy1⟩ hz1 ⟨lz1, uz1⟩)
    obtain ⟨u0, gu0, ju0⟩ := Fl.sub_I hx1 hx0 (by omega)
    obtain ⟨v0, gv0, jv0⟩ := Fl.sub_I hx2 hx0 (by omega)
    have du0 : Bd (a1 - a0) 524288 := ⟨by omega, by omega⟩
    have dv0 : Bd (a2 - a0) 524288 := ⟨by omega, by omega⟩
    obtain ⟨u1, gu1, ju1⟩ := Fl.sub_I hy1 hy0 (by omega)
    obtain ⟨v1, gv1, jv1⟩ := Fl.sub_I hy2 hy0 (by omega)
    have du1 : Bd (b1 - b0) 524288 := ⟨by omega, by omega⟩
    have dv1 : Bd (b2 - b0) 524288 := ⟨by omega, by omega⟩
    obtain ⟨u2, gu2, ju2⟩ := Fl.sub_I hz1 hz0 (by omega)
    obtain ⟨v2, gv2, jv2⟩ := Fl.sub_I hz2 hz0 (by omega)
    have du2 : Bd (c1 - c0) 524288 := ⟨by omega, by omega⟩
    have dv2 : Bd (c2 - c0) 524288 := ⟨by omega, by omega⟩
    have m0 := mul_bound du1.1 du1.2 dv2.1 dv2.2
    obtain ⟨pm0, e0, i0⟩ := Fl.mul_I ju1 jv2 (by omega)
    have m1 := mul_bound du2.1 du2.2 dv1.1 dv1.2
    obtain ⟨pm1, e1, i1⟩ := Fl.mul_I ju2 jv1 (by omega)
    have m2 := mul_bound du2.1 du2.2 dv0.1 dv0.2
    obtain ⟨pm2, e2, i2⟩ := Fl.mul_I ju2 jv0 (by omega)
    have m3 := mul_bound du0.1 du0.2 dv2.1 dv2.2
    obtain ⟨pm3, e3, i3⟩ := Fl.mul_I ju0 jv2 (by omega)
    have m4 := mul_bound du0.1 du0.2 dv1.1 dv1.2
    obtain ⟨pm4, e4, i4⟩ := Fl.mul_I ju0 jv1 (by omega)
    have m5 := mul_bound du1.1 du1.2 dv0.1 dv0.2
    obtain ⟨pm5, e5, i5⟩ := Fl.mul_I ju1 jv0 (by omega)
    obtain ⟨s0, t0, j0⟩ := Fl.sub_I i0 i1 (by omega)
    obtain ⟨s1, t1, j1⟩ := Fl.sub_I i2 i3 (by omega)
    obtain ⟨s2, t2, j2⟩ := Fl.sub_I i4 i5 (by omega)
    have F10 := fop (P := Try.prog) gu0
    have F20 := fop (P := Try.prog) gv0
    have F40 := fop (P := Try.prog) t0
    have F11 := fop (P := Try.prog) gu1
    have F21 := fop (P := Try.prog) gv1
    have F41 := fop (P := Try.prog) t1
    have F12 := fop (P := Try.prog) gu2
    have F22 := fop (P := Try.prog) gv2
    have F42 := fop (P := Try.prog) t2
    have F30 := fop (P := Try.prog) e0
    have F31 := fop (P := Try.prog) e1
    have F32 := fop (P := Try.prog) e2
    have F33 := fop (P := Try.prog) e3
    have F34 := fop (P := Try.prog) e4
    have F35 := fop (P := Try.prog) e5
    have R0 : (b1 - b0) * (c2 - c1) - (c1 - c0) * (b2 - b1) = (b1 - b0) * (c2 - c0) - (c1 - c0) * (b2 - b0) := by grind
    have S0 : (b2 - b0) * (c1 - c2) - (c2 - c0) * (b1 - b2) = -((b1 - b0) * (c2 - c0) - (c1 - c0) * (b2 - b0)) := by grind
    have J0 := Fl.neg_I j0 (fbits_lt t0)
    have R1 : (c1 - c0) * (a2 - a1) - (a1 - a0) * (c2 - c1) = (c1 - c0) * (a2 - a0) - (a1 - a0) * (c2 - c0) := by grind
    have S1 : (c2 - c0) * (a1 - a2) - (a2 - a0) * (c1 - c2) = -((c1 - c0) * (a2 - a0) - (a1 - a0) * (c2 - c0)) := by grind
    have J1 := Fl.neg_I j1 (fbits_lt t1)
    have R2 : (a1 - a0) * (b2 - b1) - (b1 - b0) * (a2 - a1) = (a1 - a0) * (b2 - b0) - (b1 - b0) * (a2 - a0) := by grind
    have S2 : (a2 - a0) * (b1 - b2) - (b2 - b0) * (a1 - a2) = -((a1 - a0) * (b2 - b0) - (b1 - b0) * (a2 - a0)) := by grind
    have J2 := Fl.neg_I j2 (fbits_lt t2)
    have Q1 := Lib.hid (fun (n0 n1 n2 : Nat) (h0 : Fl.IsI n0 ((b1 - b0) * (c2 - c1) - (c1 - c0) * (b2 - b1))) (h1 : Fl.IsI n1 ((c1 - c0) * (a2 - a1) - (a1 - a0) * (c2 - c1))) (h2 : Fl.IsI n2 ((a1 - a0) * (b2 - b1) - (b1 - b0) * (a2 - a1))) => eq3_run (R0 ▸ h0) (R1 ▸ h1) (R2 ▸ h2) j0 j1 j2)
    have Q2 := Lib.hid (fun (n0 n1 n2 : Nat) (h0 : Fl.IsI n0 ((b2 - b0) * (c1 - c2) - (c2 - c0) * (b1 - b2))) (h1 : Fl.IsI n1 ((c2 - c0) * (a1 - a2) - (a2 - a0) * (c1 - c2))) (h2 : Fl.IsI n2 ((a2 - a0) * (b1 - b2) - (b2 - b0) * (a1 - a2))) => eq3_run (S0 ▸ h0) (S1 ▸ h1) (S2 ▸ h2) J0 J1 J2)
    clear gx0 hx0 lx0 ux0 gy0 hy0 ly0 uy0 gz0 hz0 lz0 uz0 gx1 hx1 lx1 ux1 gy1 hy1 ly1 uy1 gz1 hz1 lz1 uz1 gx2 hx2 lx2 ux2 gy2 hy2 ly2 uy2 gz2 hz2 lz2 uz2 gu0 ju0 gv0 jv0 du0 dv0 t0 j0 R0 S0 J0 gu1 ju1 gv1 jv1 du1 dv1 t1 j1 R1 S1 J1 gu2 ju2 gv2 jv2 du2 dv2 t2 j2 R2 S2 J2 m0 e0 i0 m1 e1 i1 m2 e2 i2 m3 e3 i3 m4 e4 i4 m5 e5 i5
    have hgd : Try.prog.eqGuardType Try.prog.depth 30 = false := by kernel_rfl
    go_enter Try.func7, Try.ntmps7
    go_wp2
    refine wp_region_grow (fun i => if i = 1 then some (fun _ _ V w => FSl V [x0, y0, z0] w) else if i = 3 then some (fun _ _ V w => FSl V [x1, y1, z1] w) else if i = 5 then some (fun _ _ V w => FSl V [x2, y2, z2] w) else if i = 6 then some (fun _ _ V w => FSSl V [[x0, y0, z0], [x1, y1, z1], [x2, y2, z2]] w) else if i = 7 then some (fun _ _ => (fun V _ => V = .bool true)) else none) (by kernel_rfl) (by kernel_rfl) ?_ ?_
    · intro i Φ h lo hi v
      (repeat' split at h) <;> cases h
      · exact FSl.up
      · exact FSl.up
      · exact FSl.up
      · exact FSSl.up
      · exact fun _ _ h _ => h
    repeat (first
      | (refine wpGrow_skip (by rfl) ?_; simp only [Act.put, List.setIfInBounds_toArray, List.set_cons_zero, List.set_cons_succ, Nat.reduceAdd])
      | (refine wpGrow_det' (by rfl) (by rfl) ?_; apply Exists.intro; refine ⟨fun w' hc hh => ?_, ?_⟩; (have hcell := grow_cell hc; clear hc hh; go_simp; rfl); simp only [Act.put, List.setIfInBounds_toArray, List.set_cons_zero, List.set_cons_succ, Nat.reduceAdd]))
    refine wpGrow_eff' (by rfl) (by rfl) (fun w' hc hh => ?_) (fun v lo hi w' hap hc hh hv => ?_)
    · clear hc hh
      go_simp
      go_at_call 23
      refine (off3_calls _ _ _ _).mono ?_
      rintro e w2 ⟨rfl, rfl⟩
      exact EffPost.mk (((Grow.refl _).alloc _).alloc _) (fsl_3 (by go_simp) (by go_simp) (by go_simp))
    obtain ⟨A0, l0, rfl, -, -⟩ := hv
    clear hc hh hap w'
    simp only [Act.put, List.setIfInBounds_toArray, List.set_cons_zero, List.set_cons_succ, Nat.reduceAdd]
    repeat (first
      | (refine wpGrow_skip (by rfl) ?_; simp only [Act.put, List.setIfInBounds_toArray, List.set_cons_zero, List.set_cons_succ, Nat.reduceAdd])
      | (refine wpGrow_det' (by rfl) (by rfl) ?_; apply Exists.intro; refine ⟨fun w' hc hh => ?_, ?_⟩; (have hcell := grow_cell hc; clear hc hh; go_simp; rfl); simp only [Act.put, List.setIfInBounds_toArray, List.set_cons_zero, List.set_cons_succ, Nat.reduceAdd]))
    refine wpGrow_eff' (by rfl) (by rfl) (fun w' hc hh => ?_) (fun v lo hi w' hap hc hh hv => ?_)
    · clear hc hh
      go_simp
      go_at_call 23
      refine (off3_calls _ _ _ _).mono ?_
      rintro e w2 ⟨rfl, rfl⟩
      exact EffPost.mk (((Grow.refl _).alloc _).alloc _) (fsl_3 (by go_simp) (by go_simp) (by go_simp))
    obtain ⟨A1, l1, rfl, -, -⟩ := hv
    clear hc hh hap w'
    simp only [Act.put, List.setIfInBounds_toArray, List.set_cons_zero, List.set_cons_succ, Nat.reduceAdd]
    repeat (first
      | (refine wpGrow_skip (by rfl) ?_; simp only [Act.put, List.setIfInBounds_toArray, List.set_cons_zero, List.set_cons_succ, Nat.reduceAdd])
      | (refine wpGrow_det' (by rfl) (by rfl) ?_; apply Exists.intro; refine ⟨fun w' hc hh => ?_, ?_⟩; (have hcell := grow_cell hc; clear hc hh; go_simp; rfl); simp only [Act.put, List.setIfInBounds_toArray, List.set_cons_zero, List.set_cons_succ, Nat.reduceAdd]))
    refine wpGrow_eff' (by rfl) (by rfl) (fun w' hc hh => ?_) (fun v lo hi w' hap hc hh hv => ?_)
    · clear hc hh
      go_simp
      go_at_call 23
      refine (off3_calls _ _ _ _).mono ?_
      rintro e w2 ⟨rfl, rfl⟩
      exact EffPost.mk (((Grow.refl _).alloc _).alloc _) (fsl_3 (by go_simp) (by go_simp) (by go_simp))
    obtain ⟨A2, l2, rfl, -, -⟩ := hv
    clear hc hh hap w'
    simp only [Act.put, List.setIfInBounds_toArray, List.set_cons_zero, List.set_cons_succ, Nat.reduceAdd]
    repeat (first
      | (refine wpGrow_skip (by rfl) ?_; simp only [Act.put, List.setIfInBounds_toArray, List.set_cons_zero, List.set_cons_succ, Nat.reduceAdd])
      | (refine wpGrow_det' (by rfl) (by rfl) ?_; apply Exists.intro; refine ⟨fun w' hc hh => ?_, ?_⟩; (have hcell := grow_cell hc; clear hc hh; go_simp; rfl); simp only [Act.put, List.setIfInBounds_toArray, List.set_cons_zero, List.set_cons_succ, Nat.reduceAdd]))
    refine wpGrow_eff' (by rfl) (by rfl) (fun w' hc hh => ?_) (fun v lo hi w' hap hc hh hv => ?_)
    · have H0 := hh 1 (anc_of 8 (by kernel_rfl))
      have H1 := hh 3 (anc_of 8 (by kernel_rfl))
      have H2 := hh 5 (anc_of 8 (by kernel_rfl))
      have H0 := Lib.hid H0
      clear hc hh
      go_simp
      exact EffVal.mk ((Grow.refl _).alloc _) (fssl_3 (by go_simp) (by go_simp) (by go_simp) (FSl.up _ _ H0.out ((Grow.refl _).alloc _)) (FSl.up _ _ H1 ((Grow.refl _).alloc _)) (FSl.up _ _ H2 ((Grow.refl _).alloc _)))
    obtain ⟨A3, l3, rfl, -, -⟩ := hv
    clear hc hh hap w'
    simp only [Act.put, List.setIfInBounds_toArray, List.set_cons_zero, List.set_cons_succ, Nat.reduceAdd]
    repeat (first
      | (refine wpGrow_skip (by rfl) ?_; simp only [Act.put, List.setIfInBounds_toArray, List.set_cons_zero, List.set_cons_succ, Nat.reduceAdd])
      | (refine wpGrow_det' (by rfl) (by rfl) ?_; apply Exists.intro; refine ⟨fun w' hc hh => ?_, ?_⟩; (have hcell := grow_cell hc; clear hc hh; go_simp; rfl); simp only [Act.put, List.setIfInBounds_toArray, List.set_cons_zero, List.set_cons_succ, Nat.reduceAdd]))
    refine wpGrow_eff' (by rfl) (by rfl) (fun w' hc hh => ?_) (fun v lo hi w' hap hc hh hv => ?_)
    · have H0 := hh 6 (anc_of 9 (by kernel_rfl))
      have H0 := Lib.hid H0
      clear hc hh
      go_simp
      go_at_call 22
      refine (grid_calls _ [[x0, y0, z0], [x1, y1, z1], [x2, y2, z2]] 3 _ 262144 _ H0.out isI_18 (by decide) (by decide) (by simp) (by simp) (by decide)).mono ?_
      rintro e w2 ⟨rfl, rfl⟩
      exact EffPost.mk (Grow.refl _) (by rw [HB.out])
    obtain rfl := hv
    clear hc hh hap w'
    simp only [Act.put, List.setIfInBounds_toArray, List.set_cons_zero, List.set_cons_succ, Nat.reduceAdd]
    repeat (first
      | (refine wpGrow_skip (by rfl) ?_; simp only [Act.put, List.setIfInBounds_toArray, List.set_cons_zero, List.set_cons_succ, Nat.reduceAdd])
      | (refine wpGrow_det' (by rfl) (by rfl) ?_; apply Exists.intro; refine ⟨fun w' hc hh => ?_, ?_⟩; (have hcell := grow_cell hc; clear hc hh; go_simp; rfl); simp only [Act.put, List.setIfInBounds_toArray, List.set_cons_zero, List.set_cons_succ, Nat.reduceAdd]))
    refine wpGrow_nil ?_
    intro w1 hg hh
    have hsz : w.heap.size + 1 + 1 + 1 ≤ w1.heap.size := by simpa using hg.size
    have lt0 : w.heap.size < w1.heap.size := by omega
    have lt1 : w.heap.size + 1 < w1.heap.size := by omega
    have lt2 : w.heap.size + 1 + 1 < w1.heap.size := by omega
    have k00 : w1.cell? ⟨w.heap.size, 0, none⟩ = some (.float .f64 x0) := up_cell (by go_simp) hg
    have k01 : w1.cell? ⟨w.heap.size, 1, none⟩ = some (.float .f64 y0) := up_cell (by go_simp) hg
    have k02 : w1.cell? ⟨w.heap.size, 2, none⟩ = some (.float .f64 z0) := up_cell (by go_simp) hg
    have k10 : w1.cell? ⟨w.heap.size + 1, 0, none⟩ = some (.float .f64 x1) := up_cell (by go_simp) hg
    have k11 : w1.cell? ⟨w.heap.size + 1, 1, none⟩ = some (.float .f64 y1) := up_cell (by go_simp) hg
    have k12 : w1.cell? ⟨w.heap.size + 1, 2, none⟩ = some (.float .f64 z1) := up_cell (by go_simp) hg
    have k20 : w1.cell? ⟨w.heap.size + 1 + 1, 0, none⟩ = some (.float .f64 x2) := up_cell (by go_simp) hg
    have k21 : w1.cell? ⟨w.heap.size + 1 + 1, 1, none⟩ = some (.float .f64 y2) := up_cell (by go_simp) hg
    have k22 : w1.cell? ⟨w.heap.size + 1 + 1, 2, none⟩ = some (.float .f64 z2) := up_cell (by go_simp) hg
    have G1 := ((((Grow.refl w).alloc _).alloc _).alloc _).trans hg
    clear hh hg
    go_wp2
    obtain ⟨B, hB⟩ : ∃ B, B = w1.heap.size := ⟨_, rfl⟩
    have lb0 : w.heap.size < B := by omega
    have lb1 : w.heap.size + 1 < B := by omega
    have lb2 : w.heap.size + 1 + 1 < B := by omega
    have HBS := Lib.hid hB; clear hB
    refine wp_region_rel_tail (GX (fun k => B ≤ k) (fun X => ∃ b, X = Tri u0 u1 u2 b)) 35 (fun i => if i = 32 then some (fun _ => (fun lo hi V ww => NewQ B lo hi V ww)) else if i = 33 then some (fun _ => (fun lo hi V ww => NewQ B lo hi V ww)) else if i = 34 then some (fun vs _ _ _ ww => Put3 u0 u1 u2 vs ww) else none) (by kernel_rfl) (by kernel_rfl) (fun _ _ h => h.size) (fun _ _ _ h k => h.trans k) (fun _ _ h => GX.of_grow tri_ups h) ?_ ?_
    · intro i Φ h vs lo hi v
      (repeat' split at h) <;> cases h
      · exact NewQ.upX
      · exact NewQ.upX
      · exact Put3.upX
    simp only [List.take_succ_cons, List.take_zero, List.drop_succ_cons, List.drop_zero]
    repeat (first
      | (refine wpGrow_skip (by rfl) ?_; simp only [Act.put, List.setIfInBounds_toArray, List.set_cons_zero, List.set_cons_succ, Nat.reduceAdd])
      | (refine wpGrow_det' (by rfl) (by rfl) ?_; apply Exists.intro; refine ⟨fun w' hc hh => ?_, ?_⟩; (have hcell := GX.cell hc; clear hc hh; go_simp; rfl); simp only [Act.put, List.setIfInBounds_toArray, List.set_cons_zero, List.set_cons_succ, Nat.reduceAdd]))
    refine wpGrow_eff' (by rfl) (by rfl) (fun w' hc hh => ?_) (fun v lo hi w' hap hc hh hv => ?_)
    · have hs := hc.size
      have HBS' := HBS.out
      clear hc hh
      go_simp
      exact EffVal.mk (GX.of_grow tri_ups ((Grow.refl w').alloc _)) ⟨_, rfl, by omega, Nat.le_refl _, by simp, all3 ⟨by go_simp, by go_simp⟩ ⟨by go_simp, by go_simp⟩ ⟨by go_simp, by go_simp⟩⟩
    obtain ⟨p1, rfl, m1, l1, q1, -⟩ := hv
    clear hc hh hap w'
    simp only [Act.put, List.setIfInBounds_toArray, List.set_cons_zero, List.set_cons_succ, Nat.reduceAdd]
    repeat (first
      | (refine wpGrow_skip (by rfl) ?_; simp only [Act.put, List.setIfInBounds_toArray, List.set_cons_zero, List.set_cons_succ, Nat.reduceAdd])
      | (refine wpGrow_det' (by rfl) (by rfl) ?_; apply Exists.intro; refine ⟨fun w' hc hh => ?_, ?_⟩; (have hcell := GX.cell hc; clear hc hh; go_simp; rfl); simp only [Act.put, List.setIfInBounds_toArray, List.set_cons_zero, List.set_cons_succ, Nat.reduceAdd]))
    refine wpGrow_eff' (by rfl) (by rfl) (fun w' hc hh => ?_) (fun v lo hi w' hap hc hh hv => ?_)
    · have hs := hc.size
      have HBS' := HBS.out
      clear hc hh
      go_simp
      exact EffVal.mk (GX.of_grow tri_ups ((Grow.refl w').alloc _)) ⟨_, rfl, by omega, Nat.le_refl _, by simp, all3 ⟨by go_simp, by go_simp⟩ ⟨by go_simp, by go_simp⟩ ⟨by go_simp, by go_simp⟩⟩
    obtain ⟨p2, rfl, m2, l2, q2, -⟩ := hv
    have hne : p1 ≠ p2 := by have := hap 32 _ _ rfl; omega
    clear hc hh hap w'
    simp only [Act.put, List.setIfInBounds_toArray, List.set_cons_zero, List.set_cons_succ, Nat.reduceAdd]
    repeat (first
      | (refine wpGrow_skip (by rfl) ?_; simp only [Act.put, List.setIfInBounds_toArray, List.set_cons_zero, List.set_cons_succ, Nat.reduceAdd])
      | (refine wpGrow_det' (by rfl) (by rfl) ?_; apply Exists.intro; refine ⟨fun w' hc hh => ?_, ?_⟩; (have hcell := GX.cell hc; clear hc hh; go_simp; rfl); simp only [Act.put, List.setIfInBounds_toArray, List.set_cons_zero, List.set_cons_succ, Nat.reduceAdd]))
    refine wpGrow_eff' (by rfl) (by rfl) (fun w' hc hh => ?_) (fun v lo hi w' hap hc hh hv => ?_)
    · have H := hh 32 (anc_of 1 (by kernel_rfl))
      obtain ⟨b, hb, hBb, -, -, hj⟩ := H
      cases hb
      have sc0 := (hj 0 (by decide)).1
      have sc1 := (hj 1 (by decide)).1
      have sc2 := (hj 2 (by decide)).1
      have g0 := (hj 0 (by decide)).2
      have g1 := (hj 1 (by decide)).2
      have g2 := (hj 2 (by decide)).2
      clear hj hc hh
      obtain ⟨tc0, sc0⟩ := Option.isSome_iff_exists.1 sc0
      obtain ⟨tc1, sc1⟩ := Option.isSome_iff_exists.1 sc1
      obtain ⟨tc2, sc2⟩ := Option.isSome_iff_exists.1 sc2
      go_simp
      exact EffVal.mk ((GX.setCell _ hBb (fun X ⟨b, hX⟩ h => by subst hX; exact Tri.set0 h)).trans ((GX.setCell _ hBb (fun X ⟨b, hX⟩ h => by subst hX; exact Tri.set1 h)).trans (GX.setCell _ hBb (fun X ⟨b, hX⟩ h => by subst hX; exact Tri.set2 h)))) ⟨p1, _, rfl, by go_simp, by go_simp, by go_simp⟩
    clear hv
    clear hc hh hap w'
    simp only [Act.put, List.setIfInBounds_toArray, List.set_cons_zero, List.set_cons_succ, Nat.reduceAdd]
    repeat (first
      | (refine wpGrow_skip (by rfl) ?_; simp only [Act.put, List.setIfInBounds_toArray, List.set_cons_zero, List.set_cons_succ, Nat.reduceAdd])
      | (refine wpGrow_det' (by rfl) (by rfl) ?_; apply Exists.intro; refine ⟨fun w' hc hh => ?_, ?_⟩; (have hcell := GX.cell hc; clear hc hh; go_simp; rfl); simp only [Act.put, List.setIfInBounds_toArray, List.set_cons_zero, List.set_cons_succ, Nat.reduceAdd]))
    refine wpGrow_nil ?_
    intro w2 hg hh
    have H33 := (hh 33).1
    obtain ⟨b, rest, hvs, T1⟩ := (hh 34).1
    have hvs' : Value.pointer (some ⟨p1, 0, none⟩) = .pointer (some ⟨b, 0, none⟩) := by
      have := congrArg List.head? hvs
      exact Option.some.inj this
    cases hvs'
    obtain ⟨b, hb, hBb, -, -, hj⟩ := H33
    cases hb
    obtain ⟨tc0, sc0⟩ := Option.isSome_iff_exists.1 (hj 0 (by decide)).1
    obtain ⟨tc1, sc1⟩ := Option.isSome_iff_exists.1 (hj 1 (by decide)).1
    obtain ⟨tc2, sc2⟩ := Option.isSome_iff_exists.1 (hj 2 (by decide)).1
    have g0 := (hj 0 (by decide)).2
    have g1 := (hj 1 (by decide)).2
    have g2 := (hj 2 (by decide)).2
    obtain ⟨c10, c11, c12⟩ := T1
    have hne' : ¬ p2 = p1 := fun e => hne e.symm
    have hne2 : ¬ p1 = p2 := hne
    have hz2 := hg.size
    have lp1 := cell_lt' c10
    have lp2 := cell_lt' sc0
    have f00 : w2.cell? ⟨w.heap.size, 0, none⟩ = some (.float .f64 x0) := (hg.cell _ _ lt0 (by simp; omega)).trans k00
    have f01 : w2.cell? ⟨w.heap.size, 1, none⟩ = some (.float .f64 y0) := (hg.cell _ _ lt0 (by simp; omega)).trans k01
    have f02 : w2.cell? ⟨w.heap.size, 2, none⟩ = some (.float .f64 z0) := (hg.cell _ _ lt0 (by simp; omega)).trans k02
    have f10 : w2.cell? ⟨w.heap.size + 1, 0, none⟩ = some (.float .f64 x1) := (hg.cell _ _ lt1 (by simp; omega)).trans k10
    have f11 : w2.cell? ⟨w.heap.size + 1, 1, none⟩ = some (.float .f64 y1) := (hg.cell _ _ lt1 (by simp; omega)).trans k11
    have f12 : w2.cell? ⟨w.heap.size + 1, 2, none⟩ = some (.float .f64 z1) := (hg.cell _ _ lt1 (by simp; omega)).trans k12
    have f20 : w2.cell? ⟨w.heap.size + 1 + 1, 0, none⟩ = some (.float .f64 x2) := (hg.cell _ _ lt2 (by simp; omega)).trans k20
    have f21 : w2.cell? ⟨w.heap.size + 1 + 1, 1, none⟩ = some (.float .f64 y2) := (hg.cell _ _ lt2 (by simp; omega)).trans k21
    have f22 : w2.cell? ⟨w.heap.size + 1 + 1, 2, none⟩ = some (.float .f64 z2) := (hg.cell _ _ lt2 (by simp; omega)).trans k22
    have G2 := Lib.hid (GX.grow hg G1 (fun k hk => by have := HBS.out; have hk2 : B ≤ k := hk; omega))
    clear hh hg hj hvs
    go_wp2
    have nb0 : ¬ p2 = w.heap.size := by omega
    have nb1 : ¬ p2 = w.heap.size + 1 := by omega
    have nb2 : ¬ p2 = w.heap.size + 1 + 1 := by omega
    have e00 : ((((w2.setCell ⟨p2, 0, none⟩ (.float .f64 v0)).setCell ⟨p2, 1, none⟩ (.float .f64 v1)).setCell ⟨p2, 2, none⟩ (.float .f64 v2)).alloc (Obj.cells #[.float .f64 s0, .float .f64 s1, .float .f64 s2] 30)).cell? ⟨w.heap.size, 0, none⟩ = some (.float .f64 x0) := up_cell (by go_simp) ((Grow.refl _).alloc _)
    have e01 : ((((w2.setCell ⟨p2, 0, none⟩ (.float .f64 v0)).setCell ⟨p2, 1, none⟩ (.float .f64 v1)).setCell ⟨p2, 2, none⟩ (.float .f64 v2)).alloc (Obj.cells #[.float .f64 s0, .float .f64 s1, .float .f64 s2] 30)).cell? ⟨w.heap.size, 1, none⟩ = some (.float .f64 y0) := up_cell (by go_simp) ((Grow.refl _).alloc _)
    have e02 : ((((w2.setCell ⟨p2, 0, none⟩ (.float .f64 v0)).setCell ⟨p2, 1, none⟩ (.float .f64 v1)).setCell ⟨p2, 2, none⟩ (.float .f64 v2)).alloc (Obj.cells #[.float .f64 s0, .float .f64 s1, .float .f64 s2] 30)).cell? ⟨w.heap.size, 2, none⟩ = some (.float .f64 z0) := up_cell (by go_simp) ((Grow.refl _).alloc _)
    have e10 : ((((w2.setCell ⟨p2, 0, none⟩ (.float .f64 v0)).setCell ⟨p2, 1, none⟩ (.float .f64 v1)).setCell ⟨p2, 2, none⟩ (.float .f64 v2)).alloc (Obj.cells #[.float .f64 s0, .float .f64 s1, .float .f64 s2] 30)).cell? ⟨w.heap.size + 1, 0, none⟩ = some (.float .f64 x1) := up_cell (by go_simp) ((Grow.refl _).alloc _)
    have e11 : ((((w2.setCell ⟨p2, 0, none⟩ (.float .f64 v0)).setCell ⟨p2, 1, none⟩ (.float .f64 v1)).setCell ⟨p2, 2, none⟩ (.float .f64 v2)).alloc (Obj.cells #[.float .f64 s0, .float .f64 s1, .float .f64 s2] 30)).cell? ⟨w.heap.size + 1, 1, none⟩ = some (.float .f64 y1) := up_cell (by go_simp) ((Grow.refl _).alloc _)
    have e12 : ((((w2.setCell ⟨p2, 0, none⟩ (.float .f64 v0)).setCell ⟨p2, 1, none⟩ (.float .f64 v1)).setCell ⟨p2, 2, none⟩ (.float .f64 v2)).alloc (Obj.cells #[.float .f64 s0, .float .f64 s1, .float .f64 s2] 30)).cell? ⟨w.heap.size + 1, 2, none⟩ = some (.float .f64 z1) := up_cell (by go_simp) ((Grow.refl _).alloc _)
    have e20 : ((((w2.setCell ⟨p2, 0, none⟩ (.float .f64 v0)).setCell ⟨p2, 1, none⟩ (.float .f64 v1)).setCell ⟨p2, 2, none⟩ (.float .f64 v2)).alloc (Obj.cells #[.float .f64 s0, .float .f64 s1, .float .f64 s2] 30)).cell? ⟨w.heap.size + 1 + 1, 0, none⟩ = some (.float .f64 x2) := up_cell (by go_simp) ((Grow.refl _).alloc _)
    have e21 : ((((w2.setCell ⟨p2, 0, none⟩ (.float .f64 v0)).setCell ⟨p2, 1, none⟩ (.float .f64 v1)).setCell ⟨p2, 2, none⟩ (.float .f64 v2)).alloc (Obj.cells #[.float .f64 s0, .float .f64 s1, .float .f64 s2] 30)).cell? ⟨w.heap.size + 1 + 1, 1, none⟩ = some (.float .f64 y2) := up_cell (by go_simp) ((Grow.refl _).alloc _)
    have e22 : ((((w2.setCell ⟨p2, 0, none⟩ (.float .f64 v0)).setCell ⟨p2, 1, none⟩ (.float .f64 v1)).setCell ⟨p2, 2, none⟩ (.float .f64 v2)).alloc (Obj.cells #[.float .f64 s0, .float .f64 s1, .float .f64 s2] 30)).cell? ⟨w.heap.size + 1 + 1, 2, none⟩ = some (.float .f64 z2) := up_cell (by go_simp) ((Grow.refl _).alloc _)
    have e30 : ((((w2.setCell ⟨p2, 0, none⟩ (.float .f64 v0)).setCell ⟨p2, 1, none⟩ (.float .f64 v1)).setCell ⟨p2, 2, none⟩ (.float .f64 v2)).alloc (Obj.cells #[.float .f64 s0, .float .f64 s1, .float .f64 s2] 30)).cell? ⟨w2.heap.size, 0, none⟩ = some (.float .f64 s0) := by go_simp
    have e31 : ((((w2.setCell ⟨p2, 0, none⟩ (.float .f64 v0)).setCell ⟨p2, 1, none⟩ (.float .f64 v1)).setCell ⟨p2, 2, none⟩ (.float .f64 v2)).alloc (Obj.cells #[.float .f64 s0, .float .f64 s1, .float .f64 s2] 30)).cell? ⟨w2.heap.size, 1, none⟩ = some (.float .f64 s1) := by go_simp
    have e32 : ((((w2.setCell ⟨p2, 0, none⟩ (.float .f64 v0)).setCell ⟨p2, 1, none⟩ (.float .f64 v1)).setCell ⟨p2, 2, none⟩ (.float .f64 v2)).alloc (Obj.cells #[.float .f64 s0, .float .f64 s1, .float .f64 s2] 30)).cell? ⟨w2.heap.size, 2, none⟩ = some (.float .f64 s2) := by go_simp
    have ls3 : w2.heap.size < ((((w2.setCell ⟨p2, 0, none⟩ (.float .f64 v0)).setCell ⟨p2, 1, none⟩ (.float .f64 v1)).setCell ⟨p2, 2, none⟩ (.float .f64 v2)).alloc (Obj.cells #[.float .f64 s0, .float .f64 s1, .float .f64 s2] 30)).heap.size := by simp
    have hge : w.heap.size ≤ p2 := by omega
    have G5 := Lib.hid (show Grow w ((((w2.setCell ⟨p2, 0, none⟩ (.float .f64 v0)).setCell ⟨p2, 1, none⟩ (.float .f64 v1)).setCell ⟨p2, 2, none⟩ (.float .f64 v2)).alloc (Obj.cells #[.float .f64 s0, .float .f64 s1, .float .f64 s2] 30)) from (((G2.out.setCell hge _).setCell hge _).setCell hge _).alloc _)
    generalize hW5 : ((((w2.setCell ⟨p2, 0, none⟩ (.float .f64 v0)).setCell ⟨p2, 1, none⟩ (.float .f64 v1)).setCell ⟨p2, 2, none⟩ (.float .f64 v2)).alloc (Obj.cells #[.float .f64 s0, .float .f64 s1, .float .f64 s2] 30)) = w5 at *
    clear hW5
    have ll2 : w.heap.size + 1 + 1 < w5.heap.size := cell_lt' e20
    have ll1 : w.heap.size + 1 < w5.heap.size := cell_lt' e10
    have ll0 : w.heap.size < w5.heap.size := cell_lt' e00
    refine wp_region_grow (fun i => if i = 3 then some (fun _ _ => FP3 ((b1 - b0) * (c2 - c1) - (c1 - c0) * (b2 - b1)) ((c1 - c0) * (a2 - a1) - (a1 - a0) * (c2 - c1)) ((a1 - a0) * (b2 - b1) - (b1 - b0) * (a2 - a1))) else if i = 10 then some (fun _ _ => FP3 ((b2 - b0) * (c1 - c2) - (c2 - c0) * (b1 - b2)) ((c2 - c0) * (a1 - a2) - (a2 - a0) * (c1 - c2)) ((a2 - a0) * (b1 - b2) - (b2 - b0) * (a1 - a2))) else none) (by kernel_rfl) (by kernel_rfl) ?_ ?_
    · intro i Φ h lo hi v
      (repeat' split at h) <;> cases h
      · exact FP3.up
      · exact FP3.up
    repeat (first
      | (refine wpGrow_skip (by rfl) ?_; simp only [Act.put, List.setIfInBounds_toArray, List.set_cons_zero, List.set_cons_succ, Nat.reduceAdd])
      | (refine wpGrow_det' (by rfl) (by rfl) ?_; apply Exists.intro; refine ⟨fun w' hc hh => ?_, ?_⟩; (have hcell := grow_cell hc; clear hc hh; go_simp; rfl); simp only [Act.put, List.setIfInBounds_toArray, List.set_cons_zero, List.set_cons_succ, Nat.reduceAdd]))
    refine wpGrow_eff' (by rfl) (by rfl) (fun w' hc hh => ?_) (fun v lo hi w' hap hc hh hv => ?_)
    · clear hc hh
      go_simp
      go_at_call 24
      exact K1.out _
    obtain ⟨n0, n1, n2, rfl, q⟩ := hv
    have E1 := Q1.out n0 n1 n2 q.1.1 q.2.1.1 q.2.2.1
    clear q
    clear hc hh hap w'
    simp only [Act.put, List.setIfInBounds_toArray, List.set_cons_zero, List.set_cons_succ, Nat.reduceAdd]
    repeat (first
      | (refine wpGrow_skip (by rfl) ?_; simp only [Act.put, List.setIfInBounds_toArray, List.set_cons_zero, List.set_cons_succ, Nat.reduceAdd])
      | (refine wpGrow_det' (by rfl) (by rfl) ?_; apply Exists.intro; refine ⟨fun w' hc hh => ?_, ?_⟩; (have hcell := grow_cell hc; clear hc hh; go_simp; rfl); simp only [Act.put, List.setIfInBounds_toArray, List.set_cons_zero, List.set_cons_succ, Nat.reduceAdd]))
    refine wpGrow_eff' (by rfl) (by rfl) (fun w' hc hh => ?_) (fun v lo hi w' hap hc hh hv => ?_)
    · clear hc hh
      go_simp
      go_at_call 24
      exact K2.out _
    obtain ⟨m0, m1, m2, rfl, q⟩ := hv
    have E2 := Q2.out m0 m1 m2 q.1.1 q.2.1.1 q.2.2.1
    clear q
    clear hc hh hap w'
    simp only [Act.put, List.setIfInBounds_toArray, List.set_cons_zero, List.set_cons_succ, Nat.reduceAdd]
    repeat (first
      | (refine wpGrow_skip (by rfl) ?_; simp only [Act.put, List.setIfInBounds_toArray, List.set_cons_zero, List.set_cons_succ, Nat.reduceAdd])
      | (refine wpGrow_det' (by rfl) (by rfl) ?_; apply Exists.intro; refine ⟨fun w' hc hh => ?_, ?_⟩; (have hcell := grow_cell hc; clear hc hh; go_simp; rfl); simp only [Act.put, List.setIfInBounds_toArray, List.set_cons_zero, List.set_cons_succ, Nat.reduceAdd]))
    refine wpGrow_nil ?_
    intro w6 hg6 hh
    have HG6 := Lib.hid (G5.out.trans hg6)
    clear hg6 hh
    go_wp2
    go_ret
    exact ⟨by first | rfl | simp, HG6.out⟩
end Go.Proofs.Ytincapjbhbmeiaa
