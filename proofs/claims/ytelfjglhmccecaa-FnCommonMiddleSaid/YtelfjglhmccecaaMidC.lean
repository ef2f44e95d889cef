import Derived.Test.YtelfjglhmccecaaEnvC
namespace Go.Proofs.Ytelfjglhmccecaa
open Go.ChangeShapes Go.WideShapes Go.ChangeAt Go.RowKit Go.GrowR
set_option linter.unusedVariables false
set_option linter.unusedSimpArgs false

theorem coord_calls (x y : Nat) (w : World) : Calls Try.prog 65 #[.agg #[.float .f64 x, .float .f64 y]] w fun e w' => e = .returned (S2 (w.heap.size + 1)) ∧ C2 (w.heap.size + 1) x y w' ∧ w.heap.size + 1 < w'.heap.size ∧ Grow w w' := by
  go_enter Try.func65, Try.ntmps65
  go_wp2
  go_ret
  exact ⟨rfl, ⟨by go_simp, by go_simp, by go_simp, by go_simp⟩, by go_simp, ((Grow.refl w).alloc _).alloc _⟩
theorem place_calls (b x y : Nat) (w : World) (h : C2 b x y w) : Calls Try.prog 63 #[S2 b] w fun e w' => e = .returned (.agg #[.float .f64 x, .float .f64 y]) ∧ Grow w w' := by
  have HC := Lib.hid h
  have hlt : b < w.heap.size := cell_lt h.1
  have hne : ¬ b = w.heap.size := by omega
  obtain ⟨p, q, -, -⟩ := h
  go_enter Try.func63, Try.ntmps63
  go_wp2
  go_region
  go_wp2
  exact bodyPost_ret (v := .agg #[.float .f64 x, .float .f64 y]) (by simp [results, Try.results63, go_sem]) rfl ⟨rfl, ((Grow.refl w).alloc _).drew⟩
theorem C2.upGB {B b x y : Nat} {w w' : World} (h : C2 b x y w) (hg : GB B w w') (hb : b < B) : C2 b x y w' := by
  obtain ⟨h0, h1, h2, h3⟩ := h
  have hlt : b < w.heap.size := cell_lt h0
  have hn : ¬ B ≤ b := by omega
  exact ⟨(hg.cell _ _ hlt hn).trans h0, (hg.cell _ _ hlt hn).trans h1, (hg.froz _ _ hlt).trans h2, (hg.froz _ _ hlt).trans h3⟩
def DoorP (L H K G : Int) (B : Nat) (w : World) (e : Ending) (w' : World) : Prop := ∃ b m n, e = .returned (S2 b) ∧ C2 b m n w' ∧ Fl.V m ((L + H : Int) * Fl.p2 (-1)) ∧ Fl.V n ((K + G : Int) * Fl.p2 (-1)) ∧ GB B w w'
theorem door_calls (B b0 b1 b2 b3 x0 y0 x1 y1 x2 y2 x3 y3 : Nat) (a0 e0 a1 e1 a2 e2 a3 e3 : Int) (w : World) (c0 : C2 b0 x0 y0 w) (c1 : C2 b1 x1 y1 w) (c2 : C2 b2 x2 y2 w) (c3 : C2 b3 x3 y3 w) (i0 : Fl.IsI x0 a0) (j0 : Fl.IsI y0 e0) (i1 : Fl.IsI x1 a1) (j1 : Fl.IsI y1 e1) (i2 : Fl.IsI x2 a2) (j2 : Fl.IsI y2 e2) (i3 : Fl.IsI x3 a3) (j3 : Fl.IsI y3 e3) (ba0 : -16777216 ≤ a0 ∧ a0 ≤ 16777216) (be0 : -16777216 ≤ e0 ∧ e0 ≤ 16777216) (ba1 : -16777216 ≤ a1 ∧ a1 ≤ 16777216) (be1 : -16777216 ≤ e1 ∧ e1 ≤ 16777216) (ba2 : -16777216 ≤ a2 ∧ a2 ≤ 16777216) (be2 : -16777216 ≤ e2 ∧ e2 ≤ 16777216) (ba3 : -16777216 ≤ a3 ∧ a3 ≤ 16777216) (be3 : -16777216 ≤ e3 ∧ e3 ≤ 16777216) (n10 : b1 ≠ b0) (n20 : b2 ≠ b0) (n21 : b2 ≠ b1) (n30 : b3 ≠ b0) (n31 : b3 ≠ b1) (n32 : b3 ≠ b2) (g0 : B ≤ b0) (g1 : B ≤ b1) (g2 : B ≤ b2) (g3 : B ≤ b3) (gw : B ≤ w.heap.size) :
    Calls Try.prog 64 #[S2 b0, S2 b1, S2 b2, S2 b3] w (DoorP (LowHi a0 a1 a2 a3) (HighLo a0 a1 a2 a3) (LowHi e0 e1 e2 e3) (HighLo e0 e1 e2 e3) B w) := by
  have l0 := cell_lt c0.1
  have l1 := cell_lt c1.1
  have l2 := cell_lt c2.1
  have l3 := cell_lt c3.1
  have HE := Lib.hid (fun w' (hg : Grow w w') (c4 : C2 w.heap.size 0 0 w') => env_calls B b0 b1 b2 b3 w.heap.size x0 x1 x2 x3 y0 y1 y2 y3 0 0 a0 e0 a1 e1 a2 e2 a3 e3 w' (C2.up _ _ c0 hg) (C2.up _ _ c1 hg) (C2.up _ _ c2 hg) (C2.up _ _ c3 hg) c4 i0 j0 i1 j1 i2 j2 i3 j3 ba0 be0 ba1 be1 ba2 be2 ba3 be3 n10 n20 n21 n30 n31 n32 (by intro h; subst h; simp at l0) (by intro h; subst h; simp at l1) (by intro h; subst h; simp at l2) (by intro h; subst h; simp at l3) g0 g1 g2 g3 gw)
  clear c0 i0 j0 ba0 be0 g0 l0 c1 i1 j1 ba1 be1 g1 l1 c2 i2 j2 ba2 be2 g2 l2 c3 i3 j3 ba3 be3 g3 l3
  clear n10 n20 n21 n30 n31 n32
  go_enter Try.func64, Try.ntmps64
  go_wp2_with (go_at_call 123; refine (HE.out _ ((Grow.refl _).alloc _) ⟨by go_simp, by go_simp, by go_simp, by go_simp⟩).mono ?_; rintro e w1 ⟨rfl, m, n, hc, hm, hn, hx⟩)
  go_ret
  exact ⟨_, m, n, rfl, hc, hm, hn, (GX.of_grow (fun _ h => h.elim) ((Grow.refl w).alloc _)).trans hx⟩
def NewC (B lo hi x y : Nat) (V : Value) (w : World) : Prop := ∃ b, V = S2 b ∧ B ≤ b ∧ lo ≤ b ∧ b < hi ∧ C2 b x y w
theorem NewC.up {B lo hi x y : Nat} {V : Value} : Up (NewC B lo hi x y V) := fun _ _ ⟨b, h1, h2, h3, h4, h5⟩ hg => ⟨b, h1, h2, h3, h4, C2.up _ _ h5 hg⟩
def MidP (L H K G : Int) (w : World) (e : Ending) (w' : World) : Prop := ∃ m n, e = .returned (.agg #[.float .f64 m, .float .f64 n]) ∧ Fl.V m ((L + H : Int) * Fl.p2 (-1)) ∧ Fl.V n ((K + G : Int) * Fl.p2 (-1)) ∧ Grow w w'
set_option maxHeartbeats 2000000 in
theorem mid_calls (x0 y0 x1 y1 x2 y2 x3 y3 : Nat) (a0 e0 a1 e1 a2 e2 a3 e3 : Int) (w : World) (i0 : Fl.IsI x0 a0) (j0 : Fl.IsI y0 e0) (i1 : Fl.IsI x1 a1) (j1 : Fl.IsI y1 e1) (i2 : Fl.IsI x2 a2) (j2 : Fl.IsI y2 e2) (i3 : Fl.IsI x3 a3) (j3 : Fl.IsI y3 e3) (ba0 : -16777216 ≤ a0 ∧ a0 ≤ 16777216) (be0 : -16777216 ≤ e0 ∧ e0 ≤ 16777216) (ba1 : -16777216 ≤ a1 ∧ a1 ≤ 16777216) (be1 : -16777216 ≤ e1 ∧ e1 ≤ 16777216) (ba2 : -16777216 ≤ a2 ∧ a2 ≤ 16777216) (be2 : -16777216 ≤ e2 ∧ e2 ≤ 16777216) (ba3 : -16777216 ≤ a3 ∧ a3 ≤ 16777216) (be3 : -16777216 ≤ e3 ∧ e3 ≤ 16777216) :
    Calls Try.prog 15 #[.agg #[.float .f64 x0, .float .f64 y0], .agg #[.float .f64 x1, .float .f64 y1], .agg #[.float .f64 x2, .float .f64 y2], .agg #[.float .f64 x3, .float .f64 y3]] w (MidP (LowHi a0 a1 a2 a3) (HighLo a0 a1 a2 a3) (LowHi e0 e1 e2 e3) (HighLo e0 e1 e2 e3) w) := by
  have HD := Lib.hid (fun B b0 b1 b2 b3 w c0 c1 c2 c3 => door_calls B b0 b1 b2 b3 x0 y0 x1 y1 x2 y2 x3 y3 a0 e0 a1 e1 a2 e2 a3 e3 w c0 c1 c2 c3 i0 j0 i1 j1 i2 j2 i3 j3 ba0 be0 ba1 be1 ba2 be2 ba3 be3)
  clear i0 j0 ba0 be0 i1 j1 ba1 be1 i2 j2 ba2 be2 i3 j3 ba3 be3
  go_enter Try.func15, Try.ntmps15
  go_wp2
  obtain ⟨B, hB⟩ : ∃ B, B = w.heap.size + 1 + 1 + 1 + 1 + 1 := ⟨_, rfl⟩
  have HBS := Lib.hid hB; clear hB
  refine wp_region_grow_tail 8 (fun i => if i = 1 then some (fun lo hi V ww => NewC B lo hi x0 y0 V ww) else if i = 3 then some (fun lo hi V ww => NewC B lo hi x1 y1 V ww) else if i = 5 then some (fun lo hi V ww => NewC B lo hi x2 y2 V ww) else if i = 7 then some (fun lo hi V ww => NewC B lo hi x3 y3 V ww) else none) (by kernel_rfl) (by kernel_rfl) ?_ ?_
  · intro i Φ h lo hi v
    (repeat' split at h) <;> cases h
    · exact NewC.up
    · exact NewC.up
    · exact NewC.up
    · exact NewC.up
  simp only [List.take_succ_cons, List.take_zero, List.drop_succ_cons, List.drop_zero]
  repeat (first
    | (refine wpGrow_skip (by rfl) ?_; simp only [Act.put, List.setIfInBounds_toArray, List.set_cons_zero, List.set_cons_succ, Nat.reduceAdd])
    | (refine wpGrow_det' (by rfl) (by rfl) ?_; apply Exists.intro; refine ⟨fun w' hc hh => ?_, ?_⟩; (have hcell := grow_cell hc; clear hc hh; go_simp; rfl); simp only [Act.put, List.setIfInBounds_toArray, List.set_cons_zero, List.set_cons_succ, Nat.reduceAdd]))
  refine wpGrow_eff' (by rfl) (by rfl) (fun w' hc hh => ?_) (fun v lo hi w' hap hc hh hv => ?_)
  · have hs := hc.size
    have HBS' := HBS.out
    clear hc hh
    go_simp
    go_at_call 65
    refine (coord_calls _ _ _).mono ?_
    rintro e w2 ⟨rfl, hcc, hlt, hg⟩
    exact EffPost.mk hg ⟨_, rfl, by simp at hs; omega, by omega, by omega, hcc⟩
  obtain ⟨p0, rfl, m0, l0, q0, -⟩ := hv
  clear hc hh hap w'
  simp only [Act.put, List.setIfInBounds_toArray, List.set_cons_zero, List.set_cons_succ, Nat.reduceAdd]
  repeat (first
    | (refine wpGrow_skip (by rfl) ?_; simp only [Act.put, List.setIfInBounds_toArray, List.set_cons_zero, List.set_cons_succ, Nat.reduceAdd])
    | (refine wpGrow_det' (by rfl) (by rfl) ?_; apply Exists.intro; refine ⟨fun w' hc hh => ?_, ?_⟩; (have hcell := grow_cell hc; clear hc hh; go_simp; rfl); simp only [Act.put, List.setIfInBounds_toArray, List.set_cons_zero, List.set_cons_succ, Nat.reduceAdd]))
  refine wpGrow_eff' (by rfl) (by rfl) (fun w' hc hh => ?_) (fun v lo hi w' hap hc hh hv => ?_)
  · have hs := hc.size
    have HBS' := HBS.out
    clear hc hh
    go_simp
    go_at_call 65
    refine (coord_calls _ _ _).mono ?_
    rintro e w2 ⟨rfl, hcc, hlt, hg⟩
    exact EffPost.mk hg ⟨_, rfl, by simp at hs; omega, by omega, by omega, hcc⟩
  obtain ⟨p1, rfl, m1, l1, q1, -⟩ := hv
  have ne10 : p1 ≠ p0 := by have := hap 1 _ _ rfl; omega
  clear hc hh hap w'
  simp only [Act.put, List.setIfInBounds_toArray, List.set_cons_zero, List.set_cons_succ, Nat.reduceAdd]
  repeat (first
    | (refine wpGrow_skip (by rfl) ?_; simp only [Act.put, List.setIfInBounds_toArray, List.set_cons_zero, List.set_cons_succ, Nat.reduceAdd])
    | (refine wpGrow_det' (by rfl) (by rfl) ?_; apply Exists.intro; refine ⟨fun w' hc hh => ?_, ?_⟩; (have hcell := grow_cell hc; clear hc hh; go_simp; rfl); simp only [Act.put, List.setIfInBounds_toArray, List.set_cons_zero, List.set_cons_succ, Nat.reduceAdd]))
  refine wpGrow_eff' (by rfl) (by rfl) (fun w' hc hh => ?_) (fun v lo hi w' hap hc hh hv => ?_)
  · have hs := hc.size
    have HBS' := HBS.out
    clear hc hh
    go_simp
    go_at_call 65
    refine (coord_calls _ _ _).mono ?_
    rintro e w2 ⟨rfl, hcc, hlt, hg⟩
    exact EffPost.mk hg ⟨_, rfl, by simp at hs; omega, by omega, by omega, hcc⟩
  obtain ⟨p2, rfl, m2, l2, q2, -⟩ := hv
  have ne20 : p2 ≠ p0 := by have := hap 1 _ _ rfl; omega
  have ne21 : p2 ≠ p1 := by have := hap 3 _ _ rfl; omega
  clear hc hh hap w'
  simp only [Act.put, List.setIfInBounds_toArray, List.set_cons_zero, List.set_cons_succ, Nat.reduceAdd]
  repeat (first
    | (refine wpGrow_skip (by rfl) ?_; simp only [Act.put, List.setIfInBounds_toArray, List.set_cons_zero, List.set_cons_succ, Nat.reduceAdd])
    | (refine wpGrow_det' (by rfl) (by rfl) ?_; apply Exists.intro; refine ⟨fun w' hc hh => ?_, ?_⟩; (have hcell := grow_cell hc; clear hc hh; go_simp; rfl); simp only [Act.put, List.setIfInBounds_toArray, List.set_cons_zero, List.set_cons_succ, Nat.reduceAdd]))
  refine wpGrow_eff' (by rfl) (by rfl) (fun w' hc hh => ?_) (fun v lo hi w' hap hc hh hv => ?_)
  · have hs := hc.size
    have HBS' := HBS.out
    clear hc hh
    go_simp
    go_at_call 65
    refine (coord_calls _ _ _).mono ?_
    rintro e w2 ⟨rfl, hcc, hlt, hg⟩
    exact EffPost.mk hg ⟨_, rfl, by simp at hs; omega, by omega, by omega, hcc⟩
  obtain ⟨p3, rfl, m3, l3, q3, -⟩ := hv
  have ne30 : p3 ≠ p0 := by have := hap 1 _ _ rfl; omega
  have ne31 : p3 ≠ p1 := by have := hap 3 _ _ rfl; omega
  have ne32 : p3 ≠ p2 := by have := hap 5 _ _ rfl; omega
  clear hc hh hap w'
  simp only [Act.put, List.setIfInBounds_toArray, List.set_cons_zero, List.set_cons_succ, Nat.reduceAdd]
  repeat (first
    | (refine wpGrow_skip (by rfl) ?_; simp only [Act.put, List.setIfInBounds_toArray, List.set_cons_zero, List.set_cons_succ, Nat.reduceAdd])
    | (refine wpGrow_det' (by rfl) (by rfl) ?_; apply Exists.intro; refine ⟨fun w' hc hh => ?_, ?_⟩; (have hcell := grow_cell hc; clear hc hh; go_simp; rfl); simp only [Act.put, List.setIfInBounds_toArray, List.set_cons_zero, List.set_cons_succ, Nat.reduceAdd]))
  refine wpGrow_nil ?_
  intro w1 hg hh
  have H0 : NewC B _ _ x0 y0 (S2 p0) w1 := (hh 1).1
  obtain ⟨b, hb, -, -, -, D0⟩ := H0
  cases hb
  have H1 : NewC B _ _ x1 y1 (S2 p1) w1 := (hh 3).1
  obtain ⟨b, hb, -, -, -, D1⟩ := H1
  cases hb
  have H2 : NewC B _ _ x2 y2 (S2 p2) w1 := (hh 5).1
  obtain ⟨b, hb, -, -, -, D2⟩ := H2
  cases hb
  have H3 : NewC B _ _ x3 y3 (S2 p3) w1 := (hh 7).1
  obtain ⟨b, hb, -, -, -, D3⟩ := H3
  cases hb
  clear hh
  have R0 : C2 (w.heap.size + 1 + 1 + 1 + 1) 0 0 w1 := C2.up _ _ ⟨by go_simp, by go_simp, by go_simp, by go_simp⟩ hg
  have G1 := Lib.hid ((((((Grow.refl w).alloc _).alloc _).alloc _).alloc _).alloc _ |>.trans hg)
  have hsz : B ≤ w1.heap.size := by have := hg.size; have := HBS.out; simp at *; omega
  have HC := Lib.hid (HD.out B p0 p1 p2 p3 w1 D0 D1 D2 D3 ne10 ne20 ne21 ne30 ne31 ne32 m0 m1 m2 m3 hsz)
  have HR := Lib.hid R0
  have hlB : w.heap.size + 1 + 1 + 1 + 1 < B := by have := HBS.out; omega
  clear R0 hg D0 D1 D2 D3
  clear ne10 ne20 ne21 ne30 ne31 ne32 m0 m1 m2 m3 l0 l1 l2 l3 q0 q1 q2 q3
  go_wp2_with (first
    | (go_at_call 64; refine HC.out.mono ?_; rintro e w2 ⟨b, m, n, rfl, hc, hm, hn, hx⟩; have HM := Lib.hid hm; have HN := Lib.hid hn; have HX := Lib.hid hx; have HCC := Lib.hid hc; clear hm hn hx hc)
    | (go_at_call 63; refine (place_calls _ _ _ _ HCC.out).mono ?_; rintro e w3 ⟨rfl, hg3⟩; have HG3 := Lib.hid hg3; obtain ⟨rp, rq, rr, rs⟩ := C2.up _ _ (HR.out.upGB HX.out hlB) hg3; clear hg3))
  exact bodyPost_ret (v := .agg #[.float .f64 m, .float .f64 n]) (by simp [results, Try.results15, go_sem]; go_simp) rfl ⟨m, n, rfl, HM.out, HN.out, (((GX.grow HX.out G1.out (fun k hk => by have := HBS.out; have hk2 : B ≤ k := hk; omega)).trans HG3.out).setCell (by simp; omega) _).setCell (by simp; omega) _⟩
end Go.Proofs.Ytelfjglhmccecaa
