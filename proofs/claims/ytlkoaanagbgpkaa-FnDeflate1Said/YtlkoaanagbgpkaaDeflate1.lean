import Derived.Test.YtlkoaanagbgpkaaDeflate
import Derived.Test.YtlkoaanagbgpkaaBoxA
namespace Go.Proofs.Ytlkoaanagbgpkaa
open Go.ChangeShapes Go.WideShapes Go.ChangeAt Go.RowKit Go.GrowR
set_option linter.unusedVariables false
set_option linter.unusedSimpArgs false
theorem idleD1 (p0 p1 : Addr) (w : World) :
    CallsD Try.prog 67 #[.pointer (some p0), .pointer (some p1)] .returning w fun e u' w' => e = .returned (.tuple #[]) ∧ u' = .returning ∧ w' = w := by
  refine callsD_of_wpS Try.func67 rfl fun c₀ cs hu => ?_
  apply wpS_seq
  apply wpS_region
  simp [wpOpsS, go_sem, recoverD, hu, Try.ntmps67, Exit.thenS]
  refine wpS_cond (t := false) (by simp [Act.eval, Array.replicate]) ?_
  simp only [Bool.false_eq_true, if_false]
  refine wpS_of_wp ?_
  go_wp2
  cases c₀
  simp_all [bodyPostS, results, Try.results67, Exit.thenS]
def P1 (xss : List (List Nat)) (n : Int) (w : World) (e : Ending) (w' : World) : Prop := Grow w w' ∧
  (((∀ (i : Nat) (xs : List Nat), xss[i]? = some xs → (xs.length : Int) = n) ∧ ∃ r, e = .returned (.tuple #[r, .bool true]) ∧ FSl r xss.flatten w') ∨ ((∃ (i : Nat) (xs : List Nat), xss[i]? = some xs ∧ (xs.length : Int) ≠ n) ∧ ∃ r, e = .returned (.tuple #[r, .bool false])))
set_option maxRecDepth 100000 in
set_option maxHeartbeats 4000000 in
theorem implDeflate1_calls (v : Value) (xss : List (List Nat)) (n : Int) (w : World) (hv : FSSl v xss w) (hm : xss.length ≤ 2147483647) (hm2 : ∀ (i : Nat) (xs : List Nat), xss[i]? = some xs → xs.length ≤ 2147483647) (hl : xss.flatten.length ≤ 549755813888) :
    Calls Try.prog 26 #[v, .int .i64 n] w (P1 xss n w) := by
  have hmf : ∀ (fn : Fn) (first cap : Array Value) (w : World), (Instr.makeFunc fn first cap).run Try.prog w = .ok (.func fn first cap) w := fun _ _ _ _ => rfl
  have HC := Lib.hid (coords1_calls v xss _ (FSSl.up _ _ hv (((Grow.refl w).alloc (Obj.cells #[.slice none 0 0] 22)).alloc (Obj.cells #[.bool false] 4))) hm hm2)
  obtain ⟨A, c, rfl, -, -⟩ := hv
  have HM2 := Lib.hid hm2; clear hm2
  go_enter_defers Try.func26, Try.ntmps26
  go_wp2_with (go_at_call 69; refine HC.out.mono ?_; rintro e w1 ⟨O, us, rfl, hg, hO, hus⟩; have HG := Lib.hid hg; have HO := Lib.hid hO; have HUS := Lib.hid hus; clear hg hus; obtain ⟨A1, n1, c1, rfl⟩ := hO.isSl; clear hO)
  refine (doorDeflate1_calls _ _ us xss n _ HO.out HUS.out hl hm).mono ?_
  rintro e w2 (⟨h1, R', rfl, hr, hg2⟩ | ⟨h1, t, x, rfl, hg2⟩)
  · have H1 := Lib.hid h1; clear h1
    have HR := Lib.hid hr
    have hsz1 := HG.out.size
    simp at hsz1
    obtain ⟨A2, n2, c2, rfl⟩ := hr.isSl
    have HG2 := Lib.hid (HG.out.trans hg2); clear hr hg2
    go_wp2
    have hsz2 := HG2.out.size
    simp at hsz2
    have hc4 : w2.cell? ⟨w.heap.size, 0, none⟩ = some (.slice none 0 0) := by rw [grow_cell HG2.out _ _ (by simp <;> omega)]; go_simp
    have hf4 : w2.frozen? ⟨w.heap.size, 0, none⟩ = false := by rw [grow_frozen HG2.out _ _ (by simp <;> omega)]; go_simp
    have HC4 := Lib.hid hc4; have HF4 := Lib.hid hf4; clear hc4 hf4
    refine wp_region_rel_tail (GX [w.heap.size] [(GotF 33 w2.heap.size ⟨w.heap.size, 0, none⟩ xss.flatten)]) 5 (fun i => if i = 1 then some (fun _ _ V ww => FOwn 33 w2.heap.size V xss.flatten ww) else if i = 4 then some (fun _ _ _ ww => (GotF 33 w2.heap.size ⟨w.heap.size, 0, none⟩ xss.flatten) ww) else none) (by kernel_rfl) (by kernel_rfl) (fun _ _ h => h.size) (fun _ _ _ h k => h.trans k) (fun _ _ h => GX.of_grow (ups1 GotF.up) h) ?_ ?_
    · intro i Φ h lo hi v
      (repeat' split at h) <;> cases h
      · exact FOwn.upX (by simp; omega)
      · exact fun w1 w2 hx hg => hg.y _ (List.mem_singleton.2 rfl) hx
    simp only [List.take_succ_cons, List.take_zero, List.drop_succ_cons, List.drop_zero]
    repeat (first
      | (refine wpGrow_skip (by rfl) ?_; simp only [Act.put, List.setIfInBounds_toArray, List.set_cons_zero, List.set_cons_succ, Nat.reduceAdd])
      | (refine wpGrow_det' (by rfl) (by rfl) ?_; apply Exists.intro; refine ⟨fun w' hc hh => ?_, ?_⟩; (have hcell := GX.cell hc; clear hc hh; go_simp; rfl); simp only [Act.put, List.setIfInBounds_toArray, List.set_cons_zero, List.set_cons_succ, Nat.reduceAdd]))
    refine wpGrow_eff' (by rfl) (by rfl) (fun w' hc hh => ?_) (fun v lo hi w' hap hc hh hv => ?_)
    · have HX := Lib.hid ((VOwn.upX (by simp; omega) _ _ HR.out hc).sl.f)
      have HGC := Lib.hid hc
      clear hc hh
      go_simp
      go_at_call 55
      refine (floats_calls _ xss.flatten _ HX.out (by first | omega | simp)).mono ?_
      rintro e w3 ⟨V, rfl, hg, hown⟩
      exact EffPost.mk (GX.of_grow (ups1 GotF.up) hg) (hown.mono HGC.out.size)
    obtain ⟨A3, n3, c3, rfl⟩ := VOwn.isSl hv
    clear hv
    clear hc hh hap w'
    simp only [Act.put, List.setIfInBounds_toArray, List.set_cons_zero, List.set_cons_succ, Nat.reduceAdd]
    repeat (first
      | (refine wpGrow_skip (by rfl) ?_; simp only [Act.put, List.setIfInBounds_toArray, List.set_cons_zero, List.set_cons_succ, Nat.reduceAdd])
      | (refine wpGrow_det' (by rfl) (by rfl) ?_; apply Exists.intro; refine ⟨fun w' hc hh => ?_, ?_⟩; (have hcell := GX.cell hc; clear hc hh; go_simp; rfl); simp only [Act.put, List.setIfInBounds_toArray, List.set_cons_zero, List.set_cons_succ, Nat.reduceAdd]))
    refine wpGrow_eff' (by rfl) (by rfl) (fun w' hc hh => ?_) (fun v lo hi w' hap hc hh hv => ?_)
    · have hv1 := hh 1 (anc_of 6 (by kernel_rfl))
      have hfz : w'.frozen? ⟨w.heap.size, 0, none⟩ = false := by rw [hc.froz _ _ (by omega)]; exact HF4.out
      obtain ⟨z, hz⟩ : ∃ z, w'.cell? ⟨w.heap.size, 0, none⟩ = some z := Option.isSome_iff_exists.1 (hc.there _ _ (by simp) (by omega) (by rw [HC4.out]; rfl))
      have HV1 := Lib.hid hv1; clear hc hh hv1
      go_simp
      have hy : (GotF 33 w2.heap.size ⟨w.heap.size, 0, none⟩ xss.flatten) (w'.setCell ⟨w.heap.size, 0, none⟩ (.slice A3 n3 c3)) := ⟨_, World.cell?_setCell_same _ _ _ hz, VOwn.setCell HV1.out (by simp; omega) _⟩
      exact EffVal.mk (GX.setCell _ (by simp) (by intro X hX _; rw [List.mem_singleton.1 hX]; exact hy)) hy
    clear hv
    clear hc hh hap w'
    simp only [Act.put, List.setIfInBounds_toArray, List.set_cons_zero, List.set_cons_succ, Nat.reduceAdd]
    repeat (first
      | (refine wpGrow_skip (by rfl) ?_; simp only [Act.put, List.setIfInBounds_toArray, List.set_cons_zero, List.set_cons_succ, Nat.reduceAdd])
      | (refine wpGrow_det' (by rfl) (by rfl) ?_; apply Exists.intro; refine ⟨fun w' hc hh => ?_, ?_⟩; (have hcell := GX.cell hc; clear hc hh; go_simp; rfl); simp only [Act.put, List.setIfInBounds_toArray, List.set_cons_zero, List.set_cons_succ, Nat.reduceAdd]))
    refine wpGrow_nil ?_
    intro w4 hg hh
    have HF := Lib.hid (hh 4).1
    have hszg := hg.size
    have hc5 : w4.cell? ⟨w.heap.size + 1, 0, none⟩ = some (.bool false) := by rw [hg.cell _ _ (by omega) (by simp), grow_cell HG2.out _ _ (by simp <;> omega)]; go_simp
    have hf5 : w4.frozen? ⟨w.heap.size + 1, 0, none⟩ = false := by rw [hg.froz _ _ (by omega), grow_frozen HG2.out _ _ (by simp <;> omega)]; go_simp
    have HGT := Lib.hid (GX.grow hg ((((Grow.refl w).alloc _).alloc _).trans HG2.out) (by simp))
    obtain ⟨u4, hu4, hown4⟩ := HF.out
    have HO4 := Lib.hid hown4
    clear hh hg hown4
    go_wp2
    refine leaves_cons (f := 67) (args := #[.pointer (some ⟨w.heap.size, 0, none⟩), .pointer (some ⟨w.heap.size + 1, 0, none⟩)]) (by simp) (by simp [go_sem]) ?_
    refine (idleD1 ⟨w.heap.size, 0, none⟩ ⟨w.heap.size + 1, 0, none⟩ _).mono ?_
    rintro e u' w'' ⟨rfl, rfl, rfl⟩
    exact ⟨.tuple #[u4, .bool true], by simp [results, Try.results26, go_sem, hu4, hc5], HGT.out.setCell (by simp <;> omega) _, .inl ⟨H1.out, u4, rfl, (VOwn.setCell HO4.out (by simp; omega) _).sl.f⟩⟩
  · have H1 := Lib.hid h1; clear h1
    have HG2 := Lib.hid (HG.out.trans hg2); clear hg2
    go_wp2
    have hsz2 := HG2.out.size
    simp at hsz2
    have hc4 : w2.cell? ⟨w.heap.size, 0, none⟩ = some (.slice none 0 0) := by rw [grow_cell HG2.out _ _ (by simp <;> omega)]; go_simp
    have hf4 : w2.frozen? ⟨w.heap.size, 0, none⟩ = false := by rw [grow_frozen HG2.out _ _ (by simp <;> omega)]; go_simp
    have HC4 := Lib.hid hc4; have HF4 := Lib.hid hf4; clear hc4 hf4
    refine wp_region_rel_tail (GX [w.heap.size] [(GotF 33 w2.heap.size ⟨w.heap.size, 0, none⟩ ([] : List Nat))]) 5 (fun i => if i = 1 then some (fun _ _ V ww => FOwn 33 w2.heap.size V ([] : List Nat) ww) else if i = 4 then some (fun _ _ _ ww => (GotF 33 w2.heap.size ⟨w.heap.size, 0, none⟩ ([] : List Nat)) ww) else none) (by kernel_rfl) (by kernel_rfl) (fun _ _ h => h.size) (fun _ _ _ h k => h.trans k) (fun _ _ h => GX.of_grow (ups1 GotF.up) h) ?_ ?_
    · intro i Φ h lo hi v
      (repeat' split at h) <;> cases h
      · exact FOwn.upX (by simp; omega)
      · exact fun w1 w2 hx hg => hg.y _ (List.mem_singleton.2 rfl) hx
    simp only [List.take_succ_cons, List.take_zero, List.drop_succ_cons, List.drop_zero]
    repeat (first
      | (refine wpGrow_skip (by rfl) ?_; simp only [Act.put, List.setIfInBounds_toArray, List.set_cons_zero, List.set_cons_succ, Nat.reduceAdd])
      | (refine wpGrow_det' (by rfl) (by rfl) ?_; apply Exists.intro; refine ⟨fun w' hc hh => ?_, ?_⟩; (have hcell := GX.cell hc; clear hc hh; go_simp; rfl); simp only [Act.put, List.setIfInBounds_toArray, List.set_cons_zero, List.set_cons_succ, Nat.reduceAdd]))
    refine wpGrow_eff' (by rfl) (by rfl) (fun w' hc hh => ?_) (fun v lo hi w' hap hc hh hv => ?_)
    · have HX := Lib.hid (show FSl (.slice none 0 0) [] w' from ⟨none, 0, rfl, Nat.le_refl _, .inl rfl⟩)
      have HGC := Lib.hid hc
      clear hc hh
      go_simp
      go_at_call 55
      refine (floats_calls _ ([] : List Nat) _ HX.out (by first | omega | simp)).mono ?_
      rintro e w3 ⟨V, rfl, hg, hown⟩
      exact EffPost.mk (GX.of_grow (ups1 GotF.up) hg) (hown.mono HGC.out.size)
    obtain ⟨A3, n3, c3, rfl⟩ := VOwn.isSl hv
    clear hv
    clear hc hh hap w'
    simp only [Act.put, List.setIfInBounds_toArray, List.set_cons_zero, List.set_cons_succ, Nat.reduceAdd]
    repeat (first
      | (refine wpGrow_skip (by rfl) ?_; simp only [Act.put, List.setIfInBounds_toArray, List.set_cons_zero, List.set_cons_succ, Nat.reduceAdd])
      | (refine wpGrow_det' (by rfl) (by rfl) ?_; apply Exists.intro; refine ⟨fun w' hc hh => ?_, ?_⟩; (have hcell := GX.cell hc; clear hc hh; go_simp; rfl); simp only [Act.put, List.setIfInBounds_toArray, List.set_cons_zero, List.set_cons_succ, Nat.reduceAdd]))
    refine wpGrow_eff' (by rfl) (by rfl) (fun w' hc hh => ?_) (fun v lo hi w' hap hc hh hv => ?_)
    · have hv1 := hh 1 (anc_of 6 (by kernel_rfl))
      have hfz : w'.frozen? ⟨w.heap.size, 0, none⟩ = false := by rw [hc.froz _ _ (by omega)]; exact HF4.out
      obtain ⟨z, hz⟩ : ∃ z, w'.cell? ⟨w.heap.size, 0, none⟩ = some z := Option.isSome_iff_exists.1 (hc.there _ _ (by simp) (by omega) (by rw [HC4.out]; rfl))
      have HV1 := Lib.hid hv1; clear hc hh hv1
      go_simp
      have hy : (GotF 33 w2.heap.size ⟨w.heap.size, 0, none⟩ ([] : List Nat)) (w'.setCell ⟨w.heap.size, 0, none⟩ (.slice A3 n3 c3)) := ⟨_, World.cell?_setCell_same _ _ _ hz, VOwn.setCell HV1.out (by simp; omega) _⟩
      exact EffVal.mk (GX.setCell _ (by simp) (by intro X hX _; rw [List.mem_singleton.1 hX]; exact hy)) hy
    clear hv
    clear hc hh hap w'
    simp only [Act.put, List.setIfInBounds_toArray, List.set_cons_zero, List.set_cons_succ, Nat.reduceAdd]
    repeat (first
      | (refine wpGrow_skip (by rfl) ?_; simp only [Act.put, List.setIfInBounds_toArray, List.set_cons_zero, List.set_cons_succ, Nat.reduceAdd])
      | (refine wpGrow_det' (by rfl) (by rfl) ?_; apply Exists.intro; refine ⟨fun w' hc hh => ?_, ?_⟩; (have hcell := GX.cell hc; clear hc hh; go_simp; rfl); simp only [Act.put, List.setIfInBounds_toArray, List.set_cons_zero, List.set_cons_succ, Nat.reduceAdd]))
    refine wpGrow_nil ?_
    intro w4 hg hh
    have HF := Lib.hid (hh 4).1
    have hszg := hg.size
    have hc5 : w4.cell? ⟨w.heap.size + 1, 0, none⟩ = some (.bool false) := by rw [hg.cell _ _ (by omega) (by simp), grow_cell HG2.out _ _ (by simp <;> omega)]; go_simp
    have hf5 : w4.frozen? ⟨w.heap.size + 1, 0, none⟩ = false := by rw [hg.froz _ _ (by omega), grow_frozen HG2.out _ _ (by simp <;> omega)]; go_simp
    have HGT := Lib.hid (GX.grow hg ((((Grow.refl w).alloc _).alloc _).trans HG2.out) (by simp))
    obtain ⟨u4, hu4, hown4⟩ := HF.out
    have HO4 := Lib.hid hown4
    clear hh hg hown4
    go_wp2
    refine leaves_cons (f := 67) (args := #[.pointer (some ⟨w.heap.size, 0, none⟩), .pointer (some ⟨w.heap.size + 1, 0, none⟩)]) (by simp) (by simp [go_sem]) ?_
    refine (idleD1 ⟨w.heap.size, 0, none⟩ ⟨w.heap.size + 1, 0, none⟩ _).mono ?_
    rintro e u' w'' ⟨rfl, rfl, rfl⟩
    exact ⟨.tuple #[u4, .bool false], by simp [results, Try.results26, go_sem, hu4, hc5], HGT.out.setCell (by simp <;> omega) _, .inr ⟨H1.out, u4, rfl⟩⟩
end Go.Proofs.Ytlkoaanagbgpkaa
