import Derived.Test.YtpnmcmpeecpjeaaDoorMatH
namespace Go.Proofs.YtpnmcmpeecpjeaaDoor
open Go.ChangeShapes Go.WideShapes Go.ChangeAt Go.RowKit Go.GrowR
set_option linter.unusedVariables false
set_option linter.unusedSimpArgs false

set_option maxRecDepth 100000 in
set_option maxHeartbeats 4000000 in
theorem matVec_calls (A x p : Nat → Nat) (q : Nat → Nat → Nat) (t : Nat → Nat) (w : World) (hF : VecF A x p q t) : Calls Tryd.prog 13 #[MatV A, V3 x] w (MvP p w) := by
  have HM := Lib.hid (fun pa da w' ha => mulVec_calls pa da A x p q t w' ha hF)
  clear hF
  go_enter Tryd.func13, Tryd.ntmps13
  go_wp2
  refine wp_region_grow_tail 6 (fun i => if i = 1 then some (fun _ _ => (fun V ww => IsM 0 A V ww)) else if i = 3 then some (fun _ _ => (fun V _ => V = V3 x)) else if i = 4 then some (fun _ _ => (fun V _ => V = V3 p)) else if i = 5 then some (fun _ _ => (fun V _ => V = V3 p)) else none) (by kernel_rfl) (by kernel_rfl) ?_ ?_
  · intro i Φ h lo hi v
    (repeat' split at h) <;> cases h
    · exact IsM.up
    · exact fun _ _ h _ => h
    · exact fun _ _ h _ => h
    · exact fun _ _ h _ => h
  simp only [List.take_succ_cons, List.take_zero, List.drop_succ_cons, List.drop_zero]
  repeat (first
    | (refine wpGrow_skip (by rfl) ?_; simp only [Act.put, List.setIfInBounds_toArray, List.set_cons_zero, List.set_cons_succ, Nat.reduceAdd])
    | (refine wpGrow_det' (by rfl) (by rfl) ?_; apply Exists.intro; refine ⟨fun w' hc hh => ?_, ?_⟩; (have hcell := grow_cell hc; clear hc hh; go_simp; rfl); simp only [Act.put, List.setIfInBounds_toArray, List.set_cons_zero, List.set_cons_succ, Nat.reduceAdd]))
  refine wpGrow_eff' (by rfl) (by rfl) (fun w' hc hh => ?_) (fun v lo hi w' hap hc hh hv => ?_)
  · clear hc hh
    go_simp
    go_at_call 19
    refine (mat_calls _ _).mono ?_
    rintro e w2 ⟨mb, db, rfl, h1, h2, hm, hg⟩
    exact EffPost.mk hg ⟨mb, db, rfl, Nat.zero_le _, Nat.zero_le _, hm⟩
  obtain ⟨pa, da, rfl, -, -, -⟩ := hv
  clear hc hh hap w'
  simp only [Act.put, List.setIfInBounds_toArray, List.set_cons_zero, List.set_cons_succ, Nat.reduceAdd]
  repeat (first
    | (refine wpGrow_skip (by rfl) ?_; simp only [Act.put, List.setIfInBounds_toArray, List.set_cons_zero, List.set_cons_succ, Nat.reduceAdd])
    | (refine wpGrow_det' (by rfl) (by rfl) ?_; apply Exists.intro; refine ⟨fun w' hc hh => ?_, ?_⟩; (have hcell := grow_cell hc; clear hc hh; go_simp; rfl); simp only [Act.put, List.setIfInBounds_toArray, List.set_cons_zero, List.set_cons_succ, Nat.reduceAdd]))
  refine wpGrow_eff' (by rfl) (by rfl) (fun w' hc hh => ?_) (fun v lo hi w' hap hc hh hv => ?_)
  · clear hc hh
    go_simp
    go_at_call 16
    refine (vec3_calls _ _ _ _).mono ?_
    rintro e w2 ⟨rfl, hg⟩
    exact EffPost.mk hg rfl
  subst hv
  clear hc hh hap w'
  simp only [Act.put, List.setIfInBounds_toArray, List.set_cons_zero, List.set_cons_succ, Nat.reduceAdd]
  repeat (first
    | (refine wpGrow_skip (by rfl) ?_; simp only [Act.put, List.setIfInBounds_toArray, List.set_cons_zero, List.set_cons_succ, Nat.reduceAdd])
    | (refine wpGrow_det' (by rfl) (by rfl) ?_; apply Exists.intro; refine ⟨fun w' hc hh => ?_, ?_⟩; (have hcell := grow_cell hc; clear hc hh; go_simp; rfl); simp only [Act.put, List.setIfInBounds_toArray, List.set_cons_zero, List.set_cons_succ, Nat.reduceAdd]))
  refine wpGrow_eff' (by rfl) (by rfl) (fun w' hc hh => ?_) (fun v lo hi w' hap hc hh hv => ?_)
  · obtain ⟨pa', da', e1, -, -, HR⟩ := hh 1 (anc_of 1 (by kernel_rfl))
    cases e1
    have HRR := Lib.hid HR
    clear hc hh HR
    go_simp
    go_at_call 23
    refine (HM.out _ _ _ HRR.out).mono ?_
    rintro e w2 ⟨rfl, hg⟩
    exact EffPost.mk hg rfl
  subst hv
  clear hc hh hap w'
  simp only [Act.put, List.setIfInBounds_toArray, List.set_cons_zero, List.set_cons_succ, Nat.reduceAdd]
  repeat (first
    | (refine wpGrow_skip (by rfl) ?_; simp only [Act.put, List.setIfInBounds_toArray, List.set_cons_zero, List.set_cons_succ, Nat.reduceAdd])
    | (refine wpGrow_det' (by rfl) (by rfl) ?_; apply Exists.intro; refine ⟨fun w' hc hh => ?_, ?_⟩; (have hcell := grow_cell hc; clear hc hh; go_simp; rfl); simp only [Act.put, List.setIfInBounds_toArray, List.set_cons_zero, List.set_cons_succ, Nat.reduceAdd]))
  refine wpGrow_eff' (by rfl) (by rfl) (fun w' hc hh => ?_) (fun v lo hi w' hap hc hh hv => ?_)
  · clear hc hh
    go_simp
    go_at_call 22
    refine (plainP3_calls _ _).mono ?_
    rintro e w2 ⟨rfl, hg⟩
    exact EffPost.mk hg rfl
  subst hv
  clear hc hh hap w'
  simp only [Act.put, List.setIfInBounds_toArray, List.set_cons_zero, List.set_cons_succ, Nat.reduceAdd]
  repeat (first
    | (refine wpGrow_skip (by rfl) ?_; simp only [Act.put, List.setIfInBounds_toArray, List.set_cons_zero, List.set_cons_succ, Nat.reduceAdd])
    | (refine wpGrow_det' (by rfl) (by rfl) ?_; apply Exists.intro; refine ⟨fun w' hc hh => ?_, ?_⟩; (have hcell := grow_cell hc; clear hc hh; go_simp; rfl); simp only [Act.put, List.setIfInBounds_toArray, List.set_cons_zero, List.set_cons_succ, Nat.reduceAdd]))
  refine wpGrow_nil ?_
  intro w1 hg hh
  have HG := Lib.hid (((((Grow.refl w).alloc _).alloc _).alloc _).trans hg)
  have z0 : w1.cell? ⟨w.heap.size + 1 + 1, 0, none⟩ = some (.float .f64 0) := up_cell (by go_simp) hg
  have z1 : w1.cell? ⟨w.heap.size + 1 + 1, 1, none⟩ = some (.float .f64 0) := up_cell (by go_simp) hg
  have z2 : w1.cell? ⟨w.heap.size + 1 + 1, 2, none⟩ = some (.float .f64 0) := up_cell (by go_simp) hg
  have fz : ∀ o, w1.frozen? ⟨w.heap.size + 1 + 1, o, none⟩ = false := fun o => (grow_frozen hg _ _ (by simp)).trans (by go_simp)
  clear hh hg
  go_wp2
  refine bodyPost_ret (v := V3 p) (by simp [results, Tryd.results13, go_sem]; try go_simp) rfl ⟨rfl, ?_⟩
  exact ((HG.out.setCell (by simp <;> omega) _).setCell (by simp <;> omega) _).setCell (by simp <;> omega) _
def eyeN : Nat → Nat
  | 0 => 4607182418800017408
  | 4 => 4607182418800017408
  | 8 => 4607182418800017408
  | _ => 0
theorem eye_calls (w : World) : Calls Tryd.prog 24 #[] w fun e w' => ∃ mb db, e = .returned (.pointer (some ⟨mb, 0, none⟩)) ∧ M9 0 mb db eyeN w' ∧ Grow w w' := by
  go_enter Tryd.func24, Tryd.ntmps24
  go_wp2
  go_ret
  refine ⟨w.heap.size + 1, w.heap.size, rfl, ⟨by go_simp, fun k hk => ?_, fun o => by go_simp, by omega, Nat.zero_le _⟩, ((Grow.refl _).alloc _).alloc _⟩
  rcases lit9 hk with rfl | rfl | rfl | rfl | rfl | rfl | rfl | rfl | rfl <;> (simp only [eyeN]; go_simp)
set_option maxRecDepth 100000 in
set_option maxHeartbeats 4000000 in
theorem matEye_calls (w : World) : Calls Tryd.prog 14 #[] w (MoP eyeN w) := by
  go_enter Tryd.func14, Tryd.ntmps14
  go_wp2_with fail
  refine (eye_calls _).mono ?_
  rintro e w1 ⟨mb, db, rfl, hm, hg⟩
  have HM := Lib.hid hm
  have HG1 := Lib.hid (((Grow.refl w).alloc _).trans hg)
  have H6 : Hid (N9 w.heap.size (fun _ => 0) w1) := ⟨fun k hk => up_cell (by rcases lit9 hk with rfl | rfl | rfl | rfl | rfl | rfl | rfl | rfl | rfl <;> go_simp) hg, fun o => (grow_frozen hg _ _ (by simp)).trans (by go_simp)⟩
  clear hm hg
  go_wp2_with fail
  refine (plainMat_calls _ _ _ _ _ HM.out).mono ?_
  rintro e w3 ⟨rfl, hg⟩
  have H63 : Hid (N9 w.heap.size (fun _ => 0) w3) := ⟨fun k hk => up_cell (H6.out.1 k hk) hg, fun o => (grow_frozen hg _ o (cell_lt (H6.out.1 0 (by decide)))).trans (H6.out.2 o)⟩
  have HGB : Hid (GB w.heap.size w w3) := GX.of_grow (fun _ h => h.elim) (HG1.out.trans hg)
  clear hg
  have z0 : w3.cell? ⟨w.heap.size, 0, none⟩ = some (.float .f64 0) := H63.out.1 0 (by decide)
  have z1 : w3.cell? ⟨w.heap.size, 1, none⟩ = some (.float .f64 0) := H63.out.1 1 (by decide)
  have z2 : w3.cell? ⟨w.heap.size, 2, none⟩ = some (.float .f64 0) := H63.out.1 2 (by decide)
  have z3 : w3.cell? ⟨w.heap.size, 3, none⟩ = some (.float .f64 0) := H63.out.1 3 (by decide)
  have z4 : w3.cell? ⟨w.heap.size, 4, none⟩ = some (.float .f64 0) := H63.out.1 4 (by decide)
  have z5 : w3.cell? ⟨w.heap.size, 5, none⟩ = some (.float .f64 0) := H63.out.1 5 (by decide)
  have z6 : w3.cell? ⟨w.heap.size, 6, none⟩ = some (.float .f64 0) := H63.out.1 6 (by decide)
  have z7 : w3.cell? ⟨w.heap.size, 7, none⟩ = some (.float .f64 0) := H63.out.1 7 (by decide)
  have z8 : w3.cell? ⟨w.heap.size, 8, none⟩ = some (.float .f64 0) := H63.out.1 8 (by decide)
  have fz := H63.out.2
  go_wp2
  refine bodyPost_ret (v := MatV eyeN) ?_ rfl ⟨rfl, ?_⟩
  · have HF := H63.out.nine eyeN
    show Sem.run Tryd.prog (results Tryd.f14 _) (set9 w.heap.size eyeN w3) = Result.ok (MatV eyeN) (set9 w.heap.size eyeN w3)
    generalize set9 w.heap.size eyeN w3 = wf at HF ⊢
    clear z0 z1 z2 z3 z4 z5 z6 z7 z8 fz
    have q0 : wf.cell? ⟨w.heap.size, 0, none⟩ = some (.float .f64 (eyeN 0)) := HF.1 0 (by decide)
    have q1 : wf.cell? ⟨w.heap.size, 1, none⟩ = some (.float .f64 (eyeN 1)) := HF.1 1 (by decide)
    have q2 : wf.cell? ⟨w.heap.size, 2, none⟩ = some (.float .f64 (eyeN 2)) := HF.1 2 (by decide)
    have q3 : wf.cell? ⟨w.heap.size, 3, none⟩ = some (.float .f64 (eyeN 3)) := HF.1 3 (by decide)
    have q4 : wf.cell? ⟨w.heap.size, 4, none⟩ = some (.float .f64 (eyeN 4)) := HF.1 4 (by decide)
    have q5 : wf.cell? ⟨w.heap.size, 5, none⟩ = some (.float .f64 (eyeN 5)) := HF.1 5 (by decide)
    have q6 : wf.cell? ⟨w.heap.size, 6, none⟩ = some (.float .f64 (eyeN 6)) := HF.1 6 (by decide)
    have q7 : wf.cell? ⟨w.heap.size, 7, none⟩ = some (.float .f64 (eyeN 7)) := HF.1 7 (by decide)
    have q8 : wf.cell? ⟨w.heap.size, 8, none⟩ = some (.float .f64 (eyeN 8)) := HF.1 8 (by decide)
    simp [results, Tryd.results14, go_sem, q0, q1, q2, q3, q4, q5, q6, q7, q8]
  · show Grow w (set9 w.heap.size eyeN w3)
    exact (gb_set9 HGB.out (Nat.le_refl _) eyeN).grow (Grow.refl w) (fun k hk => hk)
end Go.Proofs.YtpnmcmpeecpjeaaDoor
