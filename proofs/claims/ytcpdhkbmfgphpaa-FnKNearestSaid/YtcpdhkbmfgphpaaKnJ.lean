import Derived.Test.YtcpdhkbmfgphpaaKnI
namespace Go.Proofs.Ytcpdhkbmfgphpaa
open Go.ChangeShapes Go.WideShapes Go.ChangeAt Go.RowKit Go.GrowR
set_option linter.unusedVariables false
set_option linter.unusedSimpArgs false

theorem sqN_comm (Q A : Nat → Int) : ∀ n, sqN Q A n = sqN A Q n
  | 0 => rfl
  | n + 1 => by
    unfold sqN
    rw [sqN_comm Q A n, show (Q n - A n) * (Q n - A n) = (A n - Q n) * (A n - Q n) by rw [← Int.neg_mul_neg]; congr 1 <;> omega]
theorem ne_false {x y : Nat} {a : Int} (hx : Fl.IsI x a) (hy : Fl.IsI y a) : (FloatKind.f64.format.order x y != some .eq) = false := by rw [neBI hx hy]; simp
set_option maxRecDepth 100000 in
set_option maxHeartbeats 8000000 in
theorem nearest1_calls (f g cw : Nat) (u pv v : Value) (p xs : List Nat) (pts : List (List Nat)) (d z y : Nat) (s : Int) (Q : Nat → Int) (w : World) (h0 : w.cell? ⟨f, 0, none⟩ = some u) (h1 : w.cell? ⟨f, 1, none⟩ = some (.float .f64 z)) (hg : w.cell? ⟨g, 0, none⟩ = some (.float .f64 y)) (hcw : 1 ≤ cw)
    (hu : FSl u p w) (hpv : FSSl pv pts w) (hv : FSl v xs w) (hp : p ∈ pts) (hps : ∀ q ∈ pts, Num q d (iv q)) (hQ : Num xs d Q) (h6 : d ≤ 6) (hl : pts.length ≤ 1000000) (hz : Fl.IsI z s) (hy : Fl.IsI y s) (hs : sqN (iv p) Q d = s) :
    Calls Try.prog 14 #[.slice (some ⟨f, 0, none⟩) 1 1, pv, v, .slice (some ⟨g, 0, none⟩) 1 cw] w (BoolQ true w) := by
  obtain ⟨i0, hi, hz0, hz1, hz2⟩ := info_parts infoFs
  have HI := Lib.hid hi; have HZ0 := Lib.hid hz0; have HZ1 := Lib.hid hz1; have HZ2 := Lib.hid hz2
  have HPN := Lib.hid (hps p hp)
  obtain ⟨sx, hsx⟩ : ∃ sx, sumX p xs d = sx := ⟨_, rfl⟩
  have hsI := sum_I HPN.out hQ h6 d (Nat.le_refl _)
  rw [hsx, hs] at hsI
  have n1 := ne_false hz hy
  have n2 := ne_false hsI hy
  have HSQ : Hid (∀ w', Grow w w' → Calls Try.prog 34 #[u, v] w' fun e w2 => e = .returned (.float .f64 sx) ∧ Grow w' w2) := fun w' hg => (squareN_calls u v p xs d (iv p) Q w' (FSl.up _ _ hu hg) (FSl.up _ _ hv hg) HPN.out hQ h6).mono fun e w2 ⟨h1, h2⟩ => ⟨by rw [h1, hsx], h2⟩
  obtain ⟨j0, hj0⟩ := List.mem_iff_getElem?.1 hp
  have HAM := Lib.hid (fun g' cg w' (hg : Grow w w') (hc : w'.cell? ⟨g', 0, none⟩ = some u) => among1_calls g' u pv cg p pts d j0 p w' hc (FSl.up _ _ hu hg) (FSSl.up _ _ hpv hg) HPN.out hps h6 hl hj0 (fun _ _ => rfl))
  have hpl : p.length = xs.length := by rw [HPN.out.1, hQ.1]
  obtain ⟨Au, cu, rfl, -, -⟩ := hu
  obtain ⟨Av, cv, rfl, -, -⟩ := hv
  obtain ⟨Ap, cp, rfl, -, -⟩ := hpv
  rw [hpl] at *
  have hne : ((xs.length : Int) != (xs.length : Int)) = false := by simp
  clear hsx hi hz0 hz1 hz2 hp hps hQ hz hy hs hsI hj0 hpl
  go_enter Try.func14, Try.ntmps14
  go_wp2
  go_loopw [9, 19] (fun o i wr => Grow w wr ∧ ((i = .int .i64 0 ∧ o = .slice none 0 0) ∨ (i = .int .i64 1 ∧ ∃ gg cc, o = .slice (some ⟨gg, 0, none⟩) 1 cc ∧ wr.cell? ⟨gg, 0, none⟩ = some (.slice Au xs.length cu)))) (fun _ i _ => 1 - (intOf i).toNat)
  case atStart => exact ⟨Grow.refl _, .inl ⟨rfl, rfl⟩⟩
  case round =>
    obtain ⟨hgw, hcase⟩ := hrel
    have HGW := Lib.hid hgw
    rcases hcase with ⟨rfl, rfl⟩ | ⟨rfl, gg, cc, rfl, hcell⟩
    case inr =>
      go_wp2_with fail
      refine (HAM.out gg cc _ HGW.out hcell).mono ?_
      rintro e w1 ⟨rfl, hg1⟩
      have HG1 := Lib.hid (HGW.out.trans hg1)
      clear hg1
      go_wp2
      go_ret
      exact ⟨rfl, HG1.out⟩
    case inl =>
      have k0 := up_cell h0 hgw
      have k1 := up_cell h1 hgw
      have k2 := up_cell hg hgw
      have lb0 := cell_lt' k0
      have lb2 := cell_lt' k2
      clear h0 h1 hg hgw
      go_wp2
      refine wp_region_grow (fun i => if i = 19 then some (fun _ _ => (fun V _ => V = .float .f64 sx)) else none) (by kernel_rfl) (by kernel_rfl) ?_ ?_
      · intro i Φ h lo hi v
        (repeat' split at h) <;> cases h
        · exact fun _ _ h _ => h
      repeat (first
        | (refine wpGrow_skip (by rfl) ?_; simp only [Act.put, List.setIfInBounds_toArray, List.set_cons_zero, List.set_cons_succ, Nat.reduceAdd])
        | (refine wpGrow_det' (by rfl) (by rfl) ?_; apply Exists.intro; refine ⟨fun w' hc hh => ?_, ?_⟩; (have hcell := grow_cell hc; clear hc hh; go_simp; rfl); simp only [Act.put, List.setIfInBounds_toArray, List.set_cons_zero, List.set_cons_succ, Nat.reduceAdd]))
      refine wpGrow_eff' (by rfl) (by rfl) (fun w' hc hh => ?_) (fun v lo hi w' hap hc hh hv => ?_)
      · have HGC := Lib.hid ((HGW.out.alloc _).trans hc)
        clear hc hh
        go_simp
        go_at_call 34
        refine (HSQ.out _ HGC.out).mono ?_
        rintro e w2 ⟨rfl, hg2⟩
        exact EffPost.mk hg2 rfl
      obtain rfl := hv
      clear hc hh hap w'
      simp only [Act.put, List.setIfInBounds_toArray, List.set_cons_zero, List.set_cons_succ, Nat.reduceAdd]
      repeat (first
        | (refine wpGrow_skip (by rfl) ?_; simp only [Act.put, List.setIfInBounds_toArray, List.set_cons_zero, List.set_cons_succ, Nat.reduceAdd])
        | (refine wpGrow_det' (by rfl) (by rfl) ?_; apply Exists.intro; refine ⟨fun w' hc hh => ?_, ?_⟩; (have hcell := grow_cell hc; clear hc hh; go_simp; rfl); simp only [Act.put, List.setIfInBounds_toArray, List.set_cons_zero, List.set_cons_succ, Nat.reduceAdd]))
      refine wpGrow_nil ?_
      intro w1 hg hh
      have HG1 := Lib.hid ((HGW.out.alloc _).trans hg)
      have d0 := up_cell (a := ⟨wr.heap.size, 0, none⟩) (v := .slice Au xs.length cu) (by go_simp) hg
      have lw := cell_lt' d0
      clear hh hg k0 k1 k2
      go_wp2_with (at_builtin; refine wpList_append_vsl rfl _ _ 29 rfl w1.heap.size 23 i0 (.slice none 0 0) 24 undFs HI.out HZ0.out HZ1.out HZ2.out rfl rfl VOwn.nil rfl (VSl.one (u := .slice Au xs.length cu) (by go_simp)) (by intro x hx; simp at hx; subst hx; rfl) (by simp [maxLen]) (by simp) (by simp) ?_; intro V' w5 hown5 hgrow5 hwh5; obtain ⟨gg, cc, rfl, hbg, hlg, hcp⟩ := VOwn.form1 hown5 (n := 0) (by simp); have HCC := Lib.hid ((VOwn.at hown5 (by simp) 0 (by omega))); have HG5 : Hid (Grow w w5) := (HG1.out.alloc _).trans (grow_of_grown hgrow5); clear hown5 hgrow5 hwh5)
      go_roundw
      case rel => exact ⟨HG5.out, .inr ⟨rfl, gg, cc, rfl, HCC.out⟩⟩
      case measure => simp [intOf]
end Go.Proofs.Ytcpdhkbmfgphpaa
