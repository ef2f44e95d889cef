import Derived.Test.YtpnmcmpeecpjeaaDoorMatE
namespace Go.Proofs.YtpnmcmpeecpjeaaDoor
open Go.ChangeShapes Go.WideShapes Go.ChangeAt Go.RowKit Go.GrowR
set_option linter.unusedVariables false
set_option linter.unusedSimpArgs false

/-- what mat gives, behind block B -/
def IsM (B : Nat) (ds : Nat → Nat) (V : Value) (w : World) : Prop := ∃ mb db, V = .pointer (some ⟨mb, 0, none⟩) ∧ B ≤ mb ∧ B ≤ db ∧ MR mb db ds w
theorem IsM.up {B : Nat} {ds : Nat → Nat} {V : Value} : Up (IsM B ds V) := fun _ _ ⟨mb, db, h0, h1, h2, h3⟩ hg => ⟨mb, db, h0, h1, h2, MR.up _ _ h3 hg⟩
set_option maxRecDepth 100000 in
set_option maxHeartbeats 8000000 in
theorem matMul_calls (A C p : Nat → Nat) (mm : Nat → Nat → Nat → Nat) (ss : Nat → Nat → Nat) (w : World) (hF : MulF A C p mm ss) : Calls Tryd.prog 10 #[MatV A, MatV C] w (MoP p w) := by
  have HO := Lib.hid (fun B mb pa da pb db w h0 f0 hB ha hb n1 n2 n3 n4 => mul_calls B mb pa da pb db A C p mm ss w h0 f0 hB ha hb n1 n2 n3 n4 hF)
  clear hF
  have HW0 := Lib.hid (rfl : w.heap.size = w.heap.size)
  go_enter Tryd.func10, Tryd.ntmps10
  go_wp2
  refine wp_region_grow_tail 6 (fun i => if i = 1 then some (fun _ _ => (fun V ww => IsM (w.heap.size + 1 + 1 + 1 + 1) A V ww)) else if i = 4 then some (fun _ _ => (fun V ww => IsM (w.heap.size + 1 + 1 + 1 + 1) C V ww)) else none) (by kernel_rfl) (by kernel_rfl) ?_ ?_
  · intro i Φ h lo hi v
    (repeat' split at h) <;> cases h
    · exact IsM.up
    · exact IsM.up
  simp only [List.take_succ_cons, List.take_zero, List.drop_succ_cons, List.drop_zero]
  repeat (first
    | (refine wpGrow_skip (by rfl) ?_; simp only [Act.put, List.setIfInBounds_toArray, List.set_cons_zero, List.set_cons_succ, Nat.reduceAdd])
    | (refine wpGrow_det' (by rfl) (by rfl) ?_; apply Exists.intro; refine ⟨fun w' hc hh => ?_, ?_⟩; (have hcell := grow_cell hc; clear hc hh; go_simp; rfl); simp only [Act.put, List.setIfInBounds_toArray, List.set_cons_zero, List.set_cons_succ, Nat.reduceAdd]))
  refine wpGrow_eff' (by rfl) (by rfl) (fun w' hc hh => ?_) (fun v lo hi w' hap hc hh hv => ?_)
  · have hs := hc.size
    simp only [heap_size_alloc_] at hs
    clear hc hh
    go_simp
    go_at_call 19
    refine (mat_calls _ _).mono ?_
    rintro e w2 ⟨mb, db, rfl, h1, h2, hm, hg⟩
    exact EffPost.mk hg ⟨mb, db, rfl, by omega, by omega, hm⟩
  obtain ⟨pa, da, rfl, la, la2, -⟩ := hv
  clear hc hh hap w'
  simp only [Act.put, List.setIfInBounds_toArray, List.set_cons_zero, List.set_cons_succ, Nat.reduceAdd]
  repeat (first
    | (refine wpGrow_skip (by rfl) ?_; simp only [Act.put, List.setIfInBounds_toArray, List.set_cons_zero, List.set_cons_succ, Nat.reduceAdd])
    | (refine wpGrow_det' (by rfl) (by rfl) ?_; apply Exists.intro; refine ⟨fun w' hc hh => ?_, ?_⟩; (have hcell := grow_cell hc; clear hc hh; go_simp; rfl); simp only [Act.put, List.setIfInBounds_toArray, List.set_cons_zero, List.set_cons_succ, Nat.reduceAdd]))
  refine wpGrow_eff' (by rfl) (by rfl) (fun w' hc hh => ?_) (fun v lo hi w' hap hc hh hv => ?_)
  · have hs := hc.size
    simp only [heap_size_alloc_] at hs
    clear hc hh
    go_simp
    go_at_call 19
    refine (mat_calls _ _).mono ?_
    rintro e w2 ⟨mb, db, rfl, h1, h2, hm, hg⟩
    exact EffPost.mk hg ⟨mb, db, rfl, by omega, by omega, hm⟩
  obtain ⟨pb, db_, rfl, lb, lb2, -⟩ := hv
  clear hc hh hap w'
  simp only [Act.put, List.setIfInBounds_toArray, List.set_cons_zero, List.set_cons_succ, Nat.reduceAdd]
  repeat (first
    | (refine wpGrow_skip (by rfl) ?_; simp only [Act.put, List.setIfInBounds_toArray, List.set_cons_zero, List.set_cons_succ, Nat.reduceAdd])
    | (refine wpGrow_det' (by rfl) (by rfl) ?_; apply Exists.intro; refine ⟨fun w' hc hh => ?_, ?_⟩; (have hcell := grow_cell hc; clear hc hh; go_simp; rfl); simp only [Act.put, List.setIfInBounds_toArray, List.set_cons_zero, List.set_cons_succ, Nat.reduceAdd]))
  refine wpGrow_nil ?_
  intro w1 hg hh
  have v6 : N9 (w.heap.size + 1 + 1) (fun _ => 0) w1 := ⟨fun k hk => up_cell (by
    have : k = 0 ∨ k = 1 ∨ k = 2 ∨ k = 3 ∨ k = 4 ∨ k = 5 ∨ k = 6 ∨ k = 7 ∨ k = 8 := by omega
    rcases this with rfl | rfl | rfl | rfl | rfl | rfl | rfl | rfl | rfl <;> go_simp) hg, fun o => (grow_frozen hg _ _ (by simp)).trans (by go_simp)⟩
  have m0 : w1.cell? ⟨w.heap.size + 1 + 1 + 1, 0, none⟩ = some (.pointer none) := up_cell (by go_simp) hg
  have mf : w1.frozen? ⟨w.heap.size + 1 + 1 + 1, 0, none⟩ = false := (grow_frozen hg _ _ (by simp)).trans (by go_simp)
  have HG1 := Lib.hid (((((Grow.refl w).alloc _).alloc _).alloc _).alloc _ |>.trans hg)
  have hsz := hg.size
  simp only [heap_size_alloc_] at hsz
  have HSZ := Lib.hid hsz
  obtain ⟨pa', da', e1, ga1, ga2, HRA⟩ := (hh 1).1
  cases e1
  obtain ⟨pb', db', e1, gb1, gb2, HRB⟩ := (hh 4).1
  cases e1
  have HO1 := Lib.hid (HO.out (w.heap.size + 1 + 1 + 1) (w.heap.size + 1 + 1 + 1) pa da' pb db' w1 m0 mf (Nat.le_refl _) HRA HRB (by omega) (by omega) (by omega) (by omega))
  have H6 := Lib.hid v6
  clear hh hg hsz m0 mf v6 HRA HRB ga1 ga2 gb1 gb2 la la2 lb lb2
  go_wp2_with fail
  refine HO1.out.mono ?_
  rintro e w2 ⟨db, rfl, hm, hg⟩
  have HM := Lib.hid hm
  have HG2 := Lib.hid hg
  have H62 : Hid (N9 (w.heap.size + 1 + 1) (fun _ => 0) w2) := ⟨fun k hk => (hg.cell _ k (cell_lt (H6.out.1 k hk)) (by intro h; have h1 : w.heap.size + 1 + 1 = w.heap.size + 1 + 1 + 1 := h; omega)).trans (H6.out.1 k hk), fun o => (hg.froz _ o (cell_lt (H6.out.1 0 (by decide)))).trans (H6.out.2 o)⟩
  clear hm hg
  go_wp2_with fail
  refine (plainMat_calls _ _ _ _ _ HM.out).mono ?_
  rintro e w3 ⟨rfl, hg⟩
  have HG3 := Lib.hid hg
  have H63 : Hid (N9 (w.heap.size + 1 + 1) (fun _ => 0) w3) := ⟨fun k hk => up_cell (H62.out.1 k hk) hg, fun o => (grow_frozen hg _ o (cell_lt (H62.out.1 0 (by decide)))).trans (H62.out.2 o)⟩
  clear hg
  have HGB : Hid (GB w.heap.size w w3) := ((GX.of_grow (fun _ h => h.elim) HG1.out).trans (GX.shrinkB HG2.out (by omega))).trans (GX.of_grow (fun _ h => h.elim) HG3.out)
  have z0 : w3.cell? ⟨w.heap.size + 1 + 1, 0, none⟩ = some (.float .f64 0) := H63.out.1 0 (by decide)
  have z1 : w3.cell? ⟨w.heap.size + 1 + 1, 1, none⟩ = some (.float .f64 0) := H63.out.1 1 (by decide)
  have z2 : w3.cell? ⟨w.heap.size + 1 + 1, 2, none⟩ = some (.float .f64 0) := H63.out.1 2 (by decide)
  have z3 : w3.cell? ⟨w.heap.size + 1 + 1, 3, none⟩ = some (.float .f64 0) := H63.out.1 3 (by decide)
  have z4 : w3.cell? ⟨w.heap.size + 1 + 1, 4, none⟩ = some (.float .f64 0) := H63.out.1 4 (by decide)
  have z5 : w3.cell? ⟨w.heap.size + 1 + 1, 5, none⟩ = some (.float .f64 0) := H63.out.1 5 (by decide)
  have z6 : w3.cell? ⟨w.heap.size + 1 + 1, 6, none⟩ = some (.float .f64 0) := H63.out.1 6 (by decide)
  have z7 : w3.cell? ⟨w.heap.size + 1 + 1, 7, none⟩ = some (.float .f64 0) := H63.out.1 7 (by decide)
  have z8 : w3.cell? ⟨w.heap.size + 1 + 1, 8, none⟩ = some (.float .f64 0) := H63.out.1 8 (by decide)
  have fz := H63.out.2
  go_wp2
  refine bodyPost_ret (v := MatV p) ?_ rfl ⟨rfl, ?_⟩
  · have HF := H63.out.nine p
    show Sem.run Tryd.prog (results Tryd.f10 _) (set9 (w.heap.size + 1 + 1) p w3) = Result.ok (MatV p) (set9 (w.heap.size + 1 + 1) p w3)
    generalize set9 (w.heap.size + 1 + 1) p w3 = wf at HF ⊢
    clear z0 z1 z2 z3 z4 z5 z6 z7 z8 fz
    have q0 : wf.cell? ⟨w.heap.size + 1 + 1, 0, none⟩ = some (.float .f64 (p 0)) := HF.1 0 (by decide)
    have q1 : wf.cell? ⟨w.heap.size + 1 + 1, 1, none⟩ = some (.float .f64 (p 1)) := HF.1 1 (by decide)
    have q2 : wf.cell? ⟨w.heap.size + 1 + 1, 2, none⟩ = some (.float .f64 (p 2)) := HF.1 2 (by decide)
    have q3 : wf.cell? ⟨w.heap.size + 1 + 1, 3, none⟩ = some (.float .f64 (p 3)) := HF.1 3 (by decide)
    have q4 : wf.cell? ⟨w.heap.size + 1 + 1, 4, none⟩ = some (.float .f64 (p 4)) := HF.1 4 (by decide)
    have q5 : wf.cell? ⟨w.heap.size + 1 + 1, 5, none⟩ = some (.float .f64 (p 5)) := HF.1 5 (by decide)
    have q6 : wf.cell? ⟨w.heap.size + 1 + 1, 6, none⟩ = some (.float .f64 (p 6)) := HF.1 6 (by decide)
    have q7 : wf.cell? ⟨w.heap.size + 1 + 1, 7, none⟩ = some (.float .f64 (p 7)) := HF.1 7 (by decide)
    have q8 : wf.cell? ⟨w.heap.size + 1 + 1, 8, none⟩ = some (.float .f64 (p 8)) := HF.1 8 (by decide)
    simp [results, Tryd.results10, go_sem, q0, q1, q2, q3, q4, q5, q6, q7, q8]
  · show Grow w (set9 (w.heap.size + 1 + 1) p w3)
    exact (gb_set9 HGB.out (by omega) p).grow (Grow.refl w) (fun k hk => hk)
end Go.Proofs.YtpnmcmpeecpjeaaDoor
