import Derived.Test.YtpnmcmpeecpjeaaDoorMatP
namespace Go.Proofs.YtpnmcmpeecpjeaaDoor
open Go.ChangeShapes Go.WideShapes Go.ChangeAt Go.RowKit Go.GrowR
set_option linter.unusedVariables false
set_option linter.unusedSimpArgs false

def C9 (g : Nat) (ds : Nat → Nat) (w : World) : Prop := ∀ k, k < 9 → w.cell? ⟨g, k, none⟩ = some (.float .f64 (ds k))
theorem C9.up {g : Nat} {ds : Nat → Nat} : Up (C9 g ds) := fun _ _ h hg k hk => up_cell (h k hk) hg
theorem C9.nine {b g : Nat} {ds : Nat → Nat} {w : World} (h : C9 b ds w) (hg : g ≠ b) (p : Nat → Nat) : C9 b ds (set9 g p w) := fun k hk => cell_set9 (h k hk) hg p
theorem N9.up {g : Nat} {ds : Nat → Nat} : Up (N9 g ds) := fun _ _ h hg => ⟨fun k hk => up_cell (h.1 k hk) hg, fun o => (froz_up (cell_lt (h.1 0 (by decide))) hg).trans (h.2 o)⟩
theorem N9.nine' {b g : Nat} {ds : Nat → Nat} {w : World} (h : N9 b ds w) (hg : g ≠ b) (p : Nat → Nat) : N9 b ds (set9 g p w) :=
  ((((((((h.other (p := ⟨g, 0, none⟩) hg _).other (p := ⟨g, 1, none⟩) hg _).other (p := ⟨g, 2, none⟩) hg _).other (p := ⟨g, 3, none⟩) hg _).other (p := ⟨g, 4, none⟩) hg _).other (p := ⟨g, 5, none⟩) hg _).other (p := ⟨g, 6, none⟩) hg _).other (p := ⟨g, 7, none⟩) hg _).other (p := ⟨g, 8, none⟩) hg _
def NewM (B lo hi : Nat) (V : Value) (w : World) : Prop := ∃ b, V = .pointer (some ⟨b, 0, none⟩) ∧ B ≤ b ∧ lo ≤ b ∧ b < hi ∧ N9 b (fun _ => 0) w
theorem NewM.up {B lo hi : Nat} {V : Value} : Up (NewM B lo hi V) := fun _ _ ⟨b, h0, h1, h2, h3, h4⟩ hg => ⟨b, h0, h1, h2, h3, N9.up _ _ h4 hg⟩
theorem NewM.mk {B : Nat} {w : World} (t : TypeId) (hB : B ≤ w.heap.size) : NewM B w.heap.size (w.heap.size + 1) (.pointer (some ⟨w.heap.size, 0, none⟩)) (w.alloc (Obj.cells #[.float .f64 0, .float .f64 0, .float .f64 0, .float .f64 0, .float .f64 0, .float .f64 0, .float .f64 0, .float .f64 0, .float .f64 0] t)) := by
  refine ⟨_, rfl, hB, Nat.le_refl _, Nat.lt_succ_self _, fun k hk => ?_, fun o => by go_simp⟩
  rcases lit9 hk with rfl | rfl | rfl | rfl | rfl | rfl | rfl | rfl | rfl <;> go_simp
def G3 (A C D : Nat → Nat) (V : Value) (w : World) : Prop := ∃ b, V = .slice (some ⟨b, 0, none⟩) 3 3 ∧ FSSl V [L9 A, L9 C, L9 D] w
theorem G3.up {A C D : Nat → Nat} {V : Value} : Up (G3 A C D V) := fun _ _ ⟨b, h0, h1⟩ hg => ⟨b, h0, FSSl.up _ _ h1 hg⟩
theorem size_setCell_ (w : World) (p : Addr) (v : Value) : (w.setCell p v).heap.size = w.heap.size := by simp [World.setCell]
noncomputable def g3B (A C D : Nat → Nat) : Bool := gridB 64 9 [L9 A, L9 C, L9 D]
theorem fssl3 {w : World} {b b0 b1 b2 : Nat} {A C D : Nat → Nat} (h0 : w.cell? ⟨b, 0, none⟩ = some (.slice (some ⟨b0, 0, none⟩) 9 9)) (h1 : w.cell? ⟨b, 1, none⟩ = some (.slice (some ⟨b1, 0, none⟩) 9 9)) (h2 : w.cell? ⟨b, 2, none⟩ = some (.slice (some ⟨b2, 0, none⟩) 9 9))
    (hA : C9 b0 A w) (hC : C9 b1 C w) (hD : C9 b2 D w) : FSSl (.slice (some ⟨b, 0, none⟩) 3 3) [L9 A, L9 C, L9 D] w :=
  ⟨_, _, rfl, Nat.le_refl _, .inr ⟨b, 0, rfl, fun i z hi => by
    match i, hi with
    | 0, hi => cases hi; exact ⟨_, h0, fsl9 hA⟩
    | 1, hi => cases hi; exact ⟨_, h1, fsl9 hC⟩
    | 2, hi => cases hi; exact ⟨_, h2, fsl9 hD⟩⟩⟩
theorem isI_6 : Fl.IsI 4634204016564240384 64 := by
  refine ⟨false, 4503599627370496, -46, by decide +kernel, ?_⟩
  simp only [Fl.dv, Bool.false_eq_true, if_false]
  rw [show (4503599627370496 : Nat) = 64 * 2 ^ 46 from by decide, Rat.natCast_mul, ← Fl.p2_nat, Rat.mul_assoc, ← Fl.p2_add]
  rw [show ((46 : Nat) : Int) + -46 = 0 from by decide, Fl.p2_zero, Rat.mul_one]; rfl
theorem nb_of {ds : Nat → Nat} (h : (L9 ds).all (Fl.wholeB 64) = true) : ∃ a, NB ds a 64 := by
  have h1 : ∀ k, ∃ n : Int, k < 9 → Fl.IsI (ds k) n ∧ -64 ≤ n ∧ n ≤ 64 := by
    intro k
    by_cases hk : k < 9
    · have hm : ds k ∈ L9 ds := by rcases lit9 hk with rfl | rfl | rfl | rfl | rfl | rfl | rfl | rfl | rfl <;> simp [L9]
      obtain ⟨n, hn⟩ := Fl.wholeB_true (List.all_eq_true.1 h _ hm)
      exact ⟨n, fun _ => hn⟩
    · exact ⟨0, fun h => absurd h hk⟩
  obtain ⟨a, ha⟩ := Classical.skolem.1 h1
  exact ⟨a, ha⟩
theorem g3_true {A C D : Nat → Nat} (h : g3B A C D = true) : (∃ a, NB A a 64) ∧ (∃ c, NB C c 64) ∧ ∃ d, NB D d 64 := by
  unfold g3B gridB rowB at h
  simp only [List.all_cons, List.all_nil, Bool.and_true, Bool.and_eq_true] at h
  obtain ⟨⟨⟨-, h1⟩, ⟨-, h2⟩, ⟨-, h3⟩⟩, -⟩ := h
  refine ⟨nb_of ?_, nb_of ?_, nb_of ?_⟩
  · simpa using h1
  · simpa using h2
  · simpa using h3
def v3N : Nat → Nat
  | 0 => 4607182418800017408
  | 1 => 4611686018427387904
  | _ => 4613937818241073152
def v3Z : Nat → Int
  | 0 => 1
  | 1 => 2
  | _ => 3
theorem v3_B : VB v3N v3Z 3 := by
  intro j hj
  rcases lit3 hj with rfl | rfl | rfl
  · refine ⟨⟨false, 4503599627370496, -52, by decide +kernel, ?_⟩, by decide, by decide⟩
    simp only [Fl.dv, Bool.false_eq_true, if_false]
    rw [show (4503599627370496 : Nat) = 1 * 2 ^ 52 from by decide, Rat.natCast_mul, ← Fl.p2_nat, Rat.mul_assoc, ← Fl.p2_add]
    rw [show ((52 : Nat) : Int) + -52 = 0 from by decide, Fl.p2_zero, Rat.mul_one]; rfl
  · refine ⟨⟨false, 4503599627370496, -51, by decide +kernel, ?_⟩, by decide, by decide⟩
    simp only [Fl.dv, Bool.false_eq_true, if_false]
    rw [show (4503599627370496 : Nat) = 2 * 2 ^ 51 from by decide, Rat.natCast_mul, ← Fl.p2_nat, Rat.mul_assoc, ← Fl.p2_add]
    rw [show ((51 : Nat) : Int) + -51 = 0 from by decide, Fl.p2_zero, Rat.mul_one]; rfl
  · refine ⟨⟨false, 6755399441055744, -51, by decide +kernel, ?_⟩, by decide, by decide⟩
    simp only [Fl.dv, Bool.false_eq_true, if_false]
    rw [show (6755399441055744 : Nat) = 3 * 2 ^ 51 from by decide, Rat.natCast_mul, ← Fl.p2_nat, Rat.mul_assoc, ← Fl.p2_add]
    rw [show ((51 : Nat) : Int) + -51 = 0 from by decide, Fl.p2_zero, Rat.mul_one]; rfl
theorem eye_ne : eq9 eyeN (fun _ => 0) = false := by
  unfold eq9
  rw [List.all_eq_false]
  refine ⟨0, by simp, ?_⟩
  have h : eqF 4607182418800017408 0 = false := by decide +kernel
  show ¬ eqF 4607182418800017408 0 = true
  rw [h]; simp
theorem run_eqV (x y : Nat → Nat) (h : ∀ j, j < 3 → eqF (x j) (y j) = true) (w : World) : (Op.equalIn 10000 24 (V3 x) (V3 y)).run Tryd.prog w = .ok true w := by
  have h1 := run_eqS (P := Tryd.prog) (t := 24) (tf := 22) (z := .float .f64 0) (n := 8) (by kernel_rfl) (by kernel_rfl) (by kernel_rfl) (by kernel_rfl) (l := [("X", 0), ("Y", 1), ("Z", 2)]) (by kernel_rfl) (by decide) [x 0, x 1, x 2] [y 0, y 1, y 2] rfl rfl w
  simpa [h 0 (by decide), h 1 (by decide), h 2 (by decide)] using h1
set_option maxRecDepth 100000 in
set_option maxHeartbeats 8000000 in
theorem law_calls (A C D : Nat → Nat) (w : World) : Calls Tryd.prog 5 #[MatV A, MatV C, MatV D] w fun e w' => e = .returned (.bool true) ∧ Grow w w' := by
  obtain ⟨w1, hw1⟩ : ∃ w1, w1 = ((w.alloc (Obj.cells #[.float .f64 (A 0), .float .f64 (A 1), .float .f64 (A 2), .float .f64 (A 3), .float .f64 (A 4), .float .f64 (A 5), .float .f64 (A 6), .float .f64 (A 7), .float .f64 (A 8)] 27)).alloc (Obj.cells #[.float .f64 (C 0), .float .f64 (C 1), .float .f64 (C 2), .float .f64 (C 3), .float .f64 (C 4), .float .f64 (C 5), .float .f64 (C 6), .float .f64 (C 7), .float .f64 (C 8)] 27)).alloc (Obj.cells #[.float .f64 (D 0), .float .f64 (D 1), .float .f64 (D 2), .float .f64 (D 3), .float .f64 (D 4), .float .f64 (D 5), .float .f64 (D 6), .float .f64 (D 7), .float .f64 (D 8)] 27) := ⟨_, rfl⟩
  have hA1 : C9 w.heap.size A w1 := by rw [hw1]; intro k hk; rcases lit9 hk with rfl | rfl | rfl | rfl | rfl | rfl | rfl | rfl | rfl <;> go_simp
  have hC1 : C9 (w.heap.size + 1) C w1 := by rw [hw1]; intro k hk; rcases lit9 hk with rfl | rfl | rfl | rfl | rfl | rfl | rfl | rfl | rfl <;> go_simp
  have hD1 : C9 (w.heap.size + 1 + 1) D w1 := by rw [hw1]; intro k hk; rcases lit9 hk with rfl | rfl | rfl | rfl | rfl | rfl | rfl | rfl | rfl <;> go_simp
  have HG1 : Hid (Grow w w1) := by rw [hw1]; exact (((Grow.refl _).alloc _).alloc _).alloc _
  have HSZ1 : Hid (w1.heap.size = w.heap.size + 1 + 1 + 1) := by show _ = _; rw [hw1]; simp only [heap_size_alloc_]
  have HA1 := Lib.hid hA1; have HC1 := Lib.hid hC1; have HD1 := Lib.hid hD1
  have HW1 := Lib.hid hw1
  clear hw1 hA1 hC1 hD1
  have HGR := Lib.hid (fun v w' (h : FSSl v [L9 A, L9 C, L9 D] w') => grid_calls v [L9 A, L9 C, L9 D] 9 4634204016564240384 64 w' h isI_6 (by decide) (by decide) (by simp) (by simp) (by decide))
  have HGB : Hid (gridB 64 9 [L9 A, L9 C, L9 D] = g3B A C D) := by show _ = _; rfl
  obtain ⟨bb, hbb⟩ : ∃ bb, bb = g3B A C D := ⟨_, rfl⟩
  have HBB := Lib.hid hbb; clear hbb
  go_enter Tryd.func5, Tryd.ntmps5
  go_wp2
  rw [← HW1.out]
  refine wp_region_grow (fun i => if i = 3 then some (fun _ _ => (fun V ww => G3 A C D V ww)) else if i = 4 then some (fun _ _ => (fun V _ => V = .bool bb)) else none) (by kernel_rfl) (by kernel_rfl) ?_ ?_
  · intro i Φ h lo hi v
    (repeat' split at h) <;> cases h
    · exact G3.up
    · exact fun _ _ h _ => h
  repeat (first
    | (refine wpGrow_skip (by rfl) ?_; simp only [Act.put, List.setIfInBounds_toArray, List.set_cons_zero, List.set_cons_succ, Nat.reduceAdd])
    | (refine wpGrow_det' (by rfl) (by rfl) ?_; apply Exists.intro; refine ⟨fun w' hc hh => ?_, ?_⟩; (have hcell := grow_cell hc; clear hc hh; go_simp; rfl); simp only [Act.put, List.setIfInBounds_toArray, List.set_cons_zero, List.set_cons_succ, Nat.reduceAdd]))
  refine wpGrow_eff' (by rfl) (by rfl) (fun w' hc hh => ?_) (fun v lo hi w' hap hc hh hv => ?_)
  · have HAw := Lib.hid (C9.up _ _ HA1.out hc); have HCw := Lib.hid (C9.up _ _ HC1.out hc); have HDw := Lib.hid (C9.up _ _ HD1.out hc)
    clear hc hh
    go_simp
    exact EffVal.mk ((Grow.refl _).alloc _) ⟨w'.heap.size, rfl, fssl3 (by go_simp) (by go_simp) (by go_simp) (C9.up _ _ HAw.out ((Grow.refl _).alloc _)) (C9.up _ _ HCw.out ((Grow.refl _).alloc _)) (C9.up _ _ HDw.out ((Grow.refl _).alloc _))⟩
  obtain ⟨A0, rfl, -⟩ := hv
  clear hc hh hap w'
  simp only [Act.put, List.setIfInBounds_toArray, List.set_cons_zero, List.set_cons_succ, Nat.reduceAdd]
  repeat (first
    | (refine wpGrow_skip (by rfl) ?_; simp only [Act.put, List.setIfInBounds_toArray, List.set_cons_zero, List.set_cons_succ, Nat.reduceAdd])
    | (refine wpGrow_det' (by rfl) (by rfl) ?_; apply Exists.intro; refine ⟨fun w' hc hh => ?_, ?_⟩; (have hcell := grow_cell hc; clear hc hh; go_simp; rfl); simp only [Act.put, List.setIfInBounds_toArray, List.set_cons_zero, List.set_cons_succ, Nat.reduceAdd]))
  refine wpGrow_eff' (by rfl) (by rfl) (fun w' hc hh => ?_) (fun v lo hi w' hap hc hh hv => ?_)
  · obtain ⟨A0', e1, hfs⟩ := hh 3 (anc_of 1 (by kernel_rfl))
    have HFS := Lib.hid hfs
    clear hc hh hfs e1
    go_simp
    go_at_call 11
    refine (HGR.out _ _ HFS.out).mono ?_
    rw [HGB.out, ← HBB.out]
    rintro e w2 ⟨rfl, rfl⟩
    exact EffPost.mk (Grow.refl _) rfl
  subst hv
  clear hc hh hap w'
  simp only [Act.put, List.setIfInBounds_toArray, List.set_cons_zero, List.set_cons_succ, Nat.reduceAdd]
  repeat (first
    | (refine wpGrow_skip (by rfl) ?_; simp only [Act.put, List.setIfInBounds_toArray, List.set_cons_zero, List.set_cons_succ, Nat.reduceAdd])
    | (refine wpGrow_det' (by rfl) (by rfl) ?_; apply Exists.intro; refine ⟨fun w' hc hh => ?_, ?_⟩; (have hcell := grow_cell hc; clear hc hh; go_simp; rfl); simp only [Act.put, List.setIfInBounds_toArray, List.set_cons_zero, List.set_cons_succ, Nat.reduceAdd]))
  refine wpGrow_nil ?_
  intro w2 hg hh
  have HG2 := Lib.hid (HG1.out.trans hg)
  have HA2 := Lib.hid (C9.up _ _ HA1.out hg); have HC2 := Lib.hid (C9.up _ _ HC1.out hg); have HD2 := Lib.hid (C9.up _ _ HD1.out hg)
  have HSZ2 := Lib.hid hg.size
  clear hg hh HA1 HC1 HD1 HG1 HW1
  cases bb with
  | false =>
    go_wp2
    go_ret
    exact ⟨rfl, HG2.out⟩
  | true =>
    obtain ⟨⟨a, ha⟩, ⟨c, hc⟩, ⟨d, hd⟩⟩ := g3_true HBB.out.symm
    obtain ⟨f1, n1⟩ := mulG ha hc (R := 4096) (by decide) (by decide) (by decide)
    obtain ⟨f2, n2⟩ := mulG n1 hd (R := 786432) (by decide) (by decide) (by decide)
    obtain ⟨f3, n3⟩ := mulG hc hd (R := 4096) (by decide) (by decide) (by decide)
    obtain ⟨f4, n4⟩ := mulG ha n3 (R := 786432) (by decide) (by decide) (by decide)
    obtain ⟨f5, n5⟩ := mulG ha hd (R := 4096) (by decide) (by decide) (by decide)
    obtain ⟨f6, n6⟩ := addG n1 n5 (by decide)
    obtain ⟨f7, n7⟩ := addG hc hd (by decide)
    obtain ⟨f8, n8⟩ := mulG ha n7 (R := 8192) (by decide) (by decide) (by decide)
    obtain ⟨f9, n9⟩ := vecG n2 v3_B (R := 7077888) (by decide) (by decide) (by decide)
    obtain ⟨fa, na⟩ := vecG hd v3_B (R := 192) (by decide) (by decide) (by decide)
    obtain ⟨fb, nb⟩ := vecG hc na (R := 36864) (by decide) (by decide) (by decide)
    obtain ⟨fc, nc⟩ := vecG ha nb (R := 7077888) (by decide) (by decide) (by decide)
    have e12 : eq9 (ppF (ppF A C) D) (ppF A (ppF C D)) = true := eq9_true (fun k hk => (n2 k hk).1) (fun k hk => by rw [mulZ_assoc a c d k hk]; exact (n4 k hk).1)
    have eS : eq9 (ppF A (aaF C D)) (aaF (ppF A C) (ppF A D)) = true := eq9_true (fun k hk => (n8 k hk).1) (fun k hk => by rw [mulZ_add a c d k hk]; exact (n6 k hk).1)
    have eV : ∀ j, j < 3 → eqF (vvF (ppF (ppF A C) D) v3N j) (vvF A (vvF C (vvF D v3N)) j) = true := fun j hj => Fl.eqB (n9 j hj).1 (by rw [vecZ_mul a c d v3Z j hj]; exact (nc j hj).1)
    have M1 := Lib.hid (fun w' => matMul_calls A C _ _ _ w' f1)
    have M2 := Lib.hid (fun w' => matMul_calls (ppF A C) D _ _ _ w' f2)
    have M3 := Lib.hid (fun w' => matMul_calls C D _ _ _ w' f3)
    have M4 := Lib.hid (fun w' => matMul_calls A (ppF C D) _ _ _ w' f4)
    have M5 := Lib.hid (fun w' => matMul_calls A D _ _ _ w' f5)
    have M6 := Lib.hid (fun w' => matAdd_calls (ppF A C) (ppF A D) _ w' f6)
    have M7 := Lib.hid (fun w' => matAdd_calls C D _ w' f7)
    have M8 := Lib.hid (fun w' => matMul_calls A (aaF C D) _ _ _ w' f8)
    have M9' := Lib.hid (fun w' => matVec_calls (ppF (ppF A C) D) v3N _ _ _ w' f9)
    have Ma := Lib.hid (fun w' => matVec_calls D v3N _ _ _ w' fa)
    have Mb := Lib.hid (fun w' => matVec_calls C (vvF D v3N) _ _ _ w' fb)
    have Mc := Lib.hid (fun w' => matVec_calls A (vvF C (vvF D v3N)) _ _ _ w' fc)
    have E1 := Lib.hid (fun w' => run_eq9 (ppF (ppF A C) D) (ppF A (ppF C D)) w'); have E12 := Lib.hid e12
    have E2 := Lib.hid (fun w' => run_eq9 (ppF A (aaF C D)) (aaF (ppF A C) (ppF A D)) w'); have ES := Lib.hid eS
    have E3 := Lib.hid (fun w' => run_eqV _ _ eV w')
    clear ha hc hd f1 f2 f3 f4 f5 f6 f7 f8 f9 fa fb fc n1 n2 n3 n4 n5 n6 n7 n8 n9 na nb nc e12 eS eV
    generalize ppF (ppF A C) D = P2 at *
    generalize ppF A (ppF C D) = Q2 at *
    generalize ppF A (aaF C D) = S2 at *
    generalize aaF (ppF A C) (ppF A D) = S1 at *
    generalize vvF P2 v3N = v1 at *
    generalize vvF A (vvF C (vvF D v3N)) = v4 at *
    generalize vvF C (vvF D v3N) = v5 at *
    generalize vvF D v3N = v6 at *
    generalize aaF C D = S3 at *
    generalize ppF A C = P1 at *
    generalize ppF C D = Q1 at *
    generalize ppF A D = R1 at *
    go_wp2
    have a0 : w2.cell? ⟨w.heap.size, 0, none⟩ = some (.float .f64 (A 0)) := HA2.out 0 (by decide)
    have a1 : w2.cell? ⟨w.heap.size, 1, none⟩ = some (.float .f64 (A 1)) := HA2.out 1 (by decide)
    have a2 : w2.cell? ⟨w.heap.size, 2, none⟩ = some (.float .f64 (A 2)) := HA2.out 2 (by decide)
    have a3 : w2.cell? ⟨w.heap.size, 3, none⟩ = some (.float .f64 (A 3)) := HA2.out 3 (by decide)
    have a4 : w2.cell? ⟨w.heap.size, 4, none⟩ = some (.float .f64 (A 4)) := HA2.out 4 (by decide)
    have a5 : w2.cell? ⟨w.heap.size, 5, none⟩ = some (.float .f64 (A 5)) := HA2.out 5 (by decide)
    have a6 : w2.cell? ⟨w.heap.size, 6, none⟩ = some (.float .f64 (A 6)) := HA2.out 6 (by decide)
    have a7 : w2.cell? ⟨w.heap.size, 7, none⟩ = some (.float .f64 (A 7)) := HA2.out 7 (by decide)
    have a8 : w2.cell? ⟨w.heap.size, 8, none⟩ = some (.float .f64 (A 8)) := HA2.out 8 (by decide)
    have c0 : w2.cell? ⟨w.heap.size + 1, 0, none⟩ = some (.float .f64 (C 0)) := HC2.out 0 (by decide)
    have c1 : w2.cell? ⟨w.heap.size + 1, 1, none⟩ = some (.float .f64 (C 1)) := HC2.out 1 (by decide)
    have c2 : w2.cell? ⟨w.heap.size + 1, 2, none⟩ = some (.float .f64 (C 2)) := HC2.out 2 (by decide)
    have c3 : w2.cell? ⟨w.heap.size + 1, 3, none⟩ = some (.float .f64 (C 3)) := HC2.out 3 (by decide)
    have c4 : w2.cell? ⟨w.heap.size + 1, 4, none⟩ = some (.float .f64 (C 4)) := HC2.out 4 (by decide)
    have c5 : w2.cell? ⟨w.heap.size + 1, 5, none⟩ = some (.float .f64 (C 5)) := HC2.out 5 (by decide)
    have c6 : w2.cell? ⟨w.heap.size + 1, 6, none⟩ = some (.float .f64 (C 6)) := HC2.out 6 (by decide)
    have c7 : w2.cell? ⟨w.heap.size + 1, 7, none⟩ = some (.float .f64 (C 7)) := HC2.out 7 (by decide)
    have c8 : w2.cell? ⟨w.heap.size + 1, 8, none⟩ = some (.float .f64 (C 8)) := HC2.out 8 (by decide)
    have d0 : w2.cell? ⟨w.heap.size + 1 + 1, 0, none⟩ = some (.float .f64 (D 0)) := HD2.out 0 (by decide)
    have d1 : w2.cell? ⟨w.heap.size + 1 + 1, 1, none⟩ = some (.float .f64 (D 1)) := HD2.out 1 (by decide)
    have d2 : w2.cell? ⟨w.heap.size + 1 + 1, 2, none⟩ = some (.float .f64 (D 2)) := HD2.out 2 (by decide)
    have d3 : w2.cell? ⟨w.heap.size + 1 + 1, 3, none⟩ = some (.float .f64 (D 3)) := HD2.out 3 (by decide)
    have d4 : w2.cell? ⟨w.heap.size + 1 + 1, 4, none⟩ = some (.float .f64 (D 4)) := HD2.out 4 (by decide)
    have d5 : w2.cell? ⟨w.heap.size + 1 + 1, 5, none⟩ = some (.float .f64 (D 5)) := HD2.out 5 (by decide)
    have d6 : w2.cell? ⟨w.heap.size + 1 + 1, 6, none⟩ = some (.float .f64 (D 6)) := HD2.out 6 (by decide)
    have d7 : w2.cell? ⟨w.heap.size + 1 + 1, 7, none⟩ = some (.float .f64 (D 7)) := HD2.out 7 (by decide)
    have d8 : w2.cell? ⟨w.heap.size + 1 + 1, 8, none⟩ = some (.float .f64 (D 8)) := HD2.out 8 (by decide)
    have la := cell_lt a0
    dsimp only at la
    have lc := cell_lt c0
    dsimp only at lc
    have ld := cell_lt d0
    dsimp only at ld
    refine wp_region_grow_tail 12 (fun i => if i = 2 then some (fun _ _ => (fun V _ => V = MatV P1)) else if i = 4 then some (fun _ _ => (fun V _ => V = MatV P2)) else if i = 8 then some (fun _ _ => (fun V _ => V = MatV Q1)) else if i = 9 then some (fun _ _ => (fun V _ => V = MatV Q2)) else if i = 10 then some (fun lo hi V ww => NewM (w.heap.size + 1 + 1 + 1) lo hi V ww) else if i = 11 then some (fun lo hi V ww => NewM (w.heap.size + 1 + 1 + 1) lo hi V ww) else none) (by kernel_rfl) (by kernel_rfl) ?_ ?_
    · intro i Φ h lo hi v
      (repeat' split at h) <;> cases h
      · exact fun _ _ h _ => h
      · exact fun _ _ h _ => h
      · exact fun _ _ h _ => h
      · exact fun _ _ h _ => h
      · exact NewM.up
      · exact NewM.up
    simp only [List.take_succ_cons, List.take_zero, List.drop_succ_cons, List.drop_zero]
    repeat (first
      | (refine wpGrow_skip (by rfl) ?_; simp only [Act.put, List.setIfInBounds_toArray, List.set_cons_zero, List.set_cons_succ, Nat.reduceAdd])
      | (refine wpGrow_det' (by rfl) (by rfl) ?_; apply Exists.intro; refine ⟨fun w' hc hh => ?_, ?_⟩; (have hcell := grow_cell hc; clear hc hh; go_simp; rfl); simp only [Act.put, List.setIfInBounds_toArray, List.set_cons_zero, List.set_cons_succ, Nat.reduceAdd]))
    refine wpGrow_eff' (by rfl) (by rfl) (fun w' hc hh => ?_) (fun v lo hi w' hap hc hh hv => ?_)
    · clear hc hh
      go_simp
      go_at_call 10
      refine (M1.out _).mono ?_
      rintro e w9 ⟨rfl, hg⟩
      exact EffPost.mk hg rfl
    subst hv
    clear hc hh hap w'
    simp only [Act.put, List.setIfInBounds_toArray, List.set_cons_zero, List.set_cons_succ, Nat.reduceAdd]
    repeat (first
      | (refine wpGrow_skip (by rfl) ?_; simp only [Act.put, List.setIfInBounds_toArray, List.set_cons_zero, List.set_cons_succ, Nat.reduceAdd])
      | (refine wpGrow_det' (by rfl) (by rfl) ?_; apply Exists.intro; refine ⟨fun w' hc hh => ?_, ?_⟩; (have hcell := grow_cell hc; clear hc hh; go_simp; rfl); simp only [Act.put, List.setIfInBounds_toArray, List.set_cons_zero, List.set_cons_succ, Nat.reduceAdd]))
    refine wpGrow_eff' (by rfl) (by rfl) (fun w' hc hh => ?_) (fun v lo hi w' hap hc hh hv => ?_)
    · clear hc hh
      go_simp
      go_at_call 10
      refine (M2.out _).mono ?_
      rintro e w9 ⟨rfl, hg⟩
      exact EffPost.mk hg rfl
    subst hv
    clear hc hh hap w'
    simp only [Act.put, List.setIfInBounds_toArray, List.set_cons_zero, List.set_cons_succ, Nat.reduceAdd]
    repeat (first
      | (refine wpGrow_skip (by rfl) ?_; simp only [Act.put, List.setIfInBounds_toArray, List.set_cons_zero, List.set_cons_succ, Nat.reduceAdd])
      | (refine wpGrow_det' (by rfl) (by rfl) ?_; apply Exists.intro; refine ⟨fun w' hc hh => ?_, ?_⟩; (have hcell := grow_cell hc; clear hc hh; go_simp; rfl); simp only [Act.put, List.setIfInBounds_toArray, List.set_cons_zero, List.set_cons_succ, Nat.reduceAdd]))
    refine wpGrow_eff' (by rfl) (by rfl) (fun w' hc hh => ?_) (fun v lo hi w' hap hc hh hv => ?_)
    · clear hc hh
      go_simp
      go_at_call 10
      refine (M3.out _).mono ?_
      rintro e w9 ⟨rfl, hg⟩
      exact EffPost.mk hg rfl
    subst hv
    clear hc hh hap w'
    simp only [Act.put, List.setIfInBounds_toArray, List.set_cons_zero, List.set_cons_succ, Nat.reduceAdd]
    repeat (first
      | (refine wpGrow_skip (by rfl) ?_; simp only [Act.put, List.setIfInBounds_toArray, List.set_cons_zero, List.set_cons_succ, Nat.reduceAdd])
      | (refine wpGrow_det' (by rfl) (by rfl) ?_; apply Exists.intro; refine ⟨fun w' hc hh => ?_, ?_⟩; (have hcell := grow_cell hc; clear hc hh; go_simp; rfl); simp only [Act.put, List.setIfInBounds_toArray, List.set_cons_zero, List.set_cons_succ, Nat.reduceAdd]))
    refine wpGrow_eff' (by rfl) (by rfl) (fun w' hc hh => ?_) (fun v lo hi w' hap hc hh hv => ?_)
    · clear hc hh
      go_simp
      go_at_call 10
      refine (M4.out _).mono ?_
      rintro e w9 ⟨rfl, hg⟩
      exact EffPost.mk hg rfl
    subst hv
    clear hc hh hap w'
    simp only [Act.put, List.setIfInBounds_toArray, List.set_cons_zero, List.set_cons_succ, Nat.reduceAdd]
    repeat (first
      | (refine wpGrow_skip (by rfl) ?_; simp only [Act.put, List.setIfInBounds_toArray, List.set_cons_zero, List.set_cons_succ, Nat.reduceAdd])
      | (refine wpGrow_det' (by rfl) (by rfl) ?_; apply Exists.intro; refine ⟨fun w' hc hh => ?_, ?_⟩; (have hcell := grow_cell hc; clear hc hh; go_simp; rfl); simp only [Act.put, List.setIfInBounds_toArray, List.set_cons_zero, List.set_cons_succ, Nat.reduceAdd]))
    refine wpGrow_eff' (by rfl) (by rfl) (fun w' hc hh => ?_) (fun v lo hi w' hap hc hh hv => ?_)
    · have hs := hc.size
      have hs1 := HSZ1.out
      have hs2 := HSZ2.out
      skip
      clear hc hh
      go_simp
      exact EffVal.mk ((Grow.refl _).alloc _) (by have h := NewM.mk (B := w.heap.size + 1 + 1 + 1) (w := w') 27 (by omega); simpa using h)
    obtain ⟨b7, rfl, Bb7, lb7, ub7, -⟩ := hv
    clear hc hh hap w'
    simp only [Act.put, List.setIfInBounds_toArray, List.set_cons_zero, List.set_cons_succ, Nat.reduceAdd]
    repeat (first
      | (refine wpGrow_skip (by rfl) ?_; simp only [Act.put, List.setIfInBounds_toArray, List.set_cons_zero, List.set_cons_succ, Nat.reduceAdd])
      | (refine wpGrow_det' (by rfl) (by rfl) ?_; apply Exists.intro; refine ⟨fun w' hc hh => ?_, ?_⟩; (have hcell := grow_cell hc; clear hc hh; go_simp; rfl); simp only [Act.put, List.setIfInBounds_toArray, List.set_cons_zero, List.set_cons_succ, Nat.reduceAdd]))
    refine wpGrow_eff' (by rfl) (by rfl) (fun w' hc hh => ?_) (fun v lo hi w' hap hc hh hv => ?_)
    · have hs := hc.size
      have hs1 := HSZ1.out
      have hs2 := HSZ2.out
      skip
      clear hc hh
      go_simp
      exact EffVal.mk ((Grow.refl _).alloc _) (by have h := NewM.mk (B := w.heap.size + 1 + 1 + 1) (w := w') 27 (by omega); simpa using h)
    obtain ⟨b8, rfl, Bb8, lb8, ub8, -⟩ := hv
    have nb8 : b8 ≠ b7 := by have := hap 10 _ _ rfl; omega
    clear hc hh hap w'
    simp only [Act.put, List.setIfInBounds_toArray, List.set_cons_zero, List.set_cons_succ, Nat.reduceAdd]
    repeat (first
      | (refine wpGrow_skip (by rfl) ?_; simp only [Act.put, List.setIfInBounds_toArray, List.set_cons_zero, List.set_cons_succ, Nat.reduceAdd])
      | (refine wpGrow_det' (by rfl) (by rfl) ?_; apply Exists.intro; refine ⟨fun w' hc hh => ?_, ?_⟩; (have hcell := grow_cell hc; clear hc hh; go_simp; rfl); simp only [Act.put, List.setIfInBounds_toArray, List.set_cons_zero, List.set_cons_succ, Nat.reduceAdd]))
    refine wpGrow_nil ?_
    intro w3 hg hh
    obtain ⟨b7', e1, -, -, -, n7⟩ := (hh 10).1
    cases e1
    obtain ⟨b8', e1, -, -, -, n8⟩ := (hh 11).1
    cases e1
    have HN7 := Lib.hid n7; have HN8 := Lib.hid n8
    have HG3 := Lib.hid (HG2.out.trans hg)
    have HA3 := Lib.hid (C9.up _ _ HA2.out hg); have HC3 := Lib.hid (C9.up _ _ HC2.out hg); have HD3 := Lib.hid (C9.up _ _ HD2.out hg)
    have HSZ3 : Hid (w.heap.size + 1 + 1 + 1 ≤ w3.heap.size) := by have h1 := HSZ1.out; have h2 := HSZ2.out; have h3 := hg.size; show _ ≤ _; omega
    have HB7 := Lib.hid Bb7; have HB8 := Lib.hid Bb8; have HNE := Lib.hid nb8
    have l7 := cell_lt (n7.1 0 (by decide)); have l8 := cell_lt (n8.1 0 (by decide))
    dsimp only at l7 l8
    have HL7 := Lib.hid l7; have HL8 := Lib.hid l8
    clear hg hh n7 n8 Bb7 lb7 ub7 Bb8 lb8 ub8 nb8 l7 l8 a0 a1 a2 a3 a4 a5 a6 a7 a8 c0 c1 c2 c3 c4 c5 c6 c7 c8 d0 d1 d2 d3 d4 d5 d6 d7 d8 la lc ld
    have z0 : w3.cell? ⟨b7, 0, none⟩ = some (.float .f64 0) := HN7.out.1 0 (by decide)
    have y0 : w3.cell? ⟨b8, 0, none⟩ = some (.float .f64 0) := HN8.out.1 0 (by decide)
    have z1 : w3.cell? ⟨b7, 1, none⟩ = some (.float .f64 0) := HN7.out.1 1 (by decide)
    have y1 : w3.cell? ⟨b8, 1, none⟩ = some (.float .f64 0) := HN8.out.1 1 (by decide)
    have z2 : w3.cell? ⟨b7, 2, none⟩ = some (.float .f64 0) := HN7.out.1 2 (by decide)
    have y2 : w3.cell? ⟨b8, 2, none⟩ = some (.float .f64 0) := HN8.out.1 2 (by decide)
    have z3 : w3.cell? ⟨b7, 3, none⟩ = some (.float .f64 0) := HN7.out.1 3 (by decide)
    have y3 : w3.cell? ⟨b8, 3, none⟩ = some (.float .f64 0) := HN8.out.1 3 (by decide)
    have z4 : w3.cell? ⟨b7, 4, none⟩ = some (.float .f64 0) := HN7.out.1 4 (by decide)
    have y4 : w3.cell? ⟨b8, 4, none⟩ = some (.float .f64 0) := HN8.out.1 4 (by decide)
    have z5 : w3.cell? ⟨b7, 5, none⟩ = some (.float .f64 0) := HN7.out.1 5 (by decide)
    have y5 : w3.cell? ⟨b8, 5, none⟩ = some (.float .f64 0) := HN8.out.1 5 (by decide)
    have z6 : w3.cell? ⟨b7, 6, none⟩ = some (.float .f64 0) := HN7.out.1 6 (by decide)
    have y6 : w3.cell? ⟨b8, 6, none⟩ = some (.float .f64 0) := HN8.out.1 6 (by decide)
    have z7 : w3.cell? ⟨b7, 7, none⟩ = some (.float .f64 0) := HN7.out.1 7 (by decide)
    have y7 : w3.cell? ⟨b8, 7, none⟩ = some (.float .f64 0) := HN8.out.1 7 (by decide)
    have z8 : w3.cell? ⟨b7, 8, none⟩ = some (.float .f64 0) := HN7.out.1 8 (by decide)
    have y8 : w3.cell? ⟨b8, 8, none⟩ = some (.float .f64 0) := HN8.out.1 8 (by decide)
    have fz7 := HN7.out.2; have fz8 := HN8.out.2
    have ne78 : ¬ b7 = b8 := fun e => HNE.out e.symm
    have ne87 : ¬ b8 = b7 := HNE.out
    go_wp2
    have HA4 := Lib.hid ((HA3.out.nine (g := b7) (by have := HB7.out; omega) P2).nine (g := b8) (by have := HB8.out; omega) Q2)
    have HC4 := Lib.hid ((HC3.out.nine (g := b7) (by have := HB7.out; omega) P2).nine (g := b8) (by have := HB8.out; omega) Q2)
    have HD4 := Lib.hid ((HD3.out.nine (g := b7) (by have := HB7.out; omega) P2).nine (g := b8) (by have := HB8.out; omega) Q2)
    have HP4 : Hid (C9 b7 P2 (set9 b8 Q2 (set9 b7 P2 w3))) := C9.nine (HN7.out.nine P2).1 HNE.out Q2
    have HQ4 : Hid (C9 b8 Q2 (set9 b8 Q2 (set9 b7 P2 w3))) := ((HN8.out.nine' (g := b7) (fun e => HNE.out e.symm) P2).nine Q2).1
    have HG4 : Hid (Grow w (set9 b8 Q2 (set9 b7 P2 w3))) := (gb_set9 (B := w.heap.size) (gb_set9 (B := w.heap.size) (GX.of_grow (fun _ h => h.elim) HG3.out) (by have := HB7.out; omega) P2) (by have := HB8.out; omega) Q2).grow (Grow.refl w) (fun k hk => hk)
    have HSZ4 : Hid ((set9 b8 Q2 (set9 b7 P2 w3)).heap.size = w3.heap.size) := by show _ = _; simp only [set9, size_setCell_]
    change Code.wp _ _ _ _ (set9 b8 Q2 (set9 b7 P2 w3))
    generalize set9 b8 Q2 (set9 b7 P2 w3) = w4 at HA4 HC4 HD4 HP4 HQ4 HG4 HSZ4 ⊢
    clear HA3 HC3 HD3 HN7 HN8 z0 y0 z1 y1 z2 y2 z3 y3 z4 y4 z5 y5 z6 y6 z7 y7 z8 y8 fz7 fz8 ne78 ne87
    have a0 : w4.cell? ⟨w.heap.size, 0, none⟩ = some (.float .f64 (A 0)) := HA4.out 0 (by decide)
    have a1 : w4.cell? ⟨w.heap.size, 1, none⟩ = some (.float .f64 (A 1)) := HA4.out 1 (by decide)
    have a2 : w4.cell? ⟨w.heap.size, 2, none⟩ = some (.float .f64 (A 2)) := HA4.out 2 (by decide)
    have a3 : w4.cell? ⟨w.heap.size, 3, none⟩ = some (.float .f64 (A 3)) := HA4.out 3 (by decide)
    have a4 : w4.cell? ⟨w.heap.size, 4, none⟩ = some (.float .f64 (A 4)) := HA4.out 4 (by decide)
    have a5 : w4.cell? ⟨w.heap.size, 5, none⟩ = some (.float .f64 (A 5)) := HA4.out 5 (by decide)
    have a6 : w4.cell? ⟨w.heap.size, 6, none⟩ = some (.float .f64 (A 6)) := HA4.out 6 (by decide)
    have a7 : w4.cell? ⟨w.heap.size, 7, none⟩ = some (.float .f64 (A 7)) := HA4.out 7 (by decide)
    have a8 : w4.cell? ⟨w.heap.size, 8, none⟩ = some (.float .f64 (A 8)) := HA4.out 8 (by decide)
    have c0 : w4.cell? ⟨w.heap.size + 1, 0, none⟩ = some (.float .f64 (C 0)) := HC4.out 0 (by decide)
    have c1 : w4.cell? ⟨w.heap.size + 1, 1, none⟩ = some (.float .f64 (C 1)) := HC4.out 1 (by decide)
    have c2 : w4.cell? ⟨w.heap.size + 1, 2, none⟩ = some (.float .f64 (C 2)) := HC4.out 2 (by decide)
    have c3 : w4.cell? ⟨w.heap.size + 1, 3, none⟩ = some (.float .f64 (C 3)) := HC4.out 3 (by decide)
    have c4 : w4.cell? ⟨w.heap.size + 1, 4, none⟩ = some (.float .f64 (C 4)) := HC4.out 4 (by decide)
    have c5 : w4.cell? ⟨w.heap.size + 1, 5, none⟩ = some (.float .f64 (C 5)) := HC4.out 5 (by decide)
    have c6 : w4.cell? ⟨w.heap.size + 1, 6, none⟩ = some (.float .f64 (C 6)) := HC4.out 6 (by decide)
    have c7 : w4.cell? ⟨w.heap.size + 1, 7, none⟩ = some (.float .f64 (C 7)) := HC4.out 7 (by decide)
    have c8 : w4.cell? ⟨w.heap.size + 1, 8, none⟩ = some (.float .f64 (C 8)) := HC4.out 8 (by decide)
    have d0 : w4.cell? ⟨w.heap.size + 1 + 1, 0, none⟩ = some (.float .f64 (D 0)) := HD4.out 0 (by decide)
    have d1 : w4.cell? ⟨w.heap.size + 1 + 1, 1, none⟩ = some (.float .f64 (D 1)) := HD4.out 1 (by decide)
    have d2 : w4.cell? ⟨w.heap.size + 1 + 1, 2, none⟩ = some (.float .f64 (D 2)) := HD4.out 2 (by decide)
    have d3 : w4.cell? ⟨w.heap.size + 1 + 1, 3, none⟩ = some (.float .f64 (D 3)) := HD4.out 3 (by decide)
    have d4 : w4.cell? ⟨w.heap.size + 1 + 1, 4, none⟩ = some (.float .f64 (D 4)) := HD4.out 4 (by decide)
    have d5 : w4.cell? ⟨w.heap.size + 1 + 1, 5, none⟩ = some (.float .f64 (D 5)) := HD4.out 5 (by decide)
    have d6 : w4.cell? ⟨w.heap.size + 1 + 1, 6, none⟩ = some (.float .f64 (D 6)) := HD4.out 6 (by decide)
    have d7 : w4.cell? ⟨w.heap.size + 1 + 1, 7, none⟩ = some (.float .f64 (D 7)) := HD4.out 7 (by decide)
    have d8 : w4.cell? ⟨w.heap.size + 1 + 1, 8, none⟩ = some (.float .f64 (D 8)) := HD4.out 8 (by decide)
    have la := cell_lt a0
    dsimp only at la
    have lc := cell_lt c0
    dsimp only at lc
    have ld := cell_lt d0
    dsimp only at ld
    refine wp_region_grow_tail 8 (fun i => if i = 2 then some (fun _ _ => (fun V _ => V = MatV P1)) else if i = 5 then some (fun _ _ => (fun V _ => V = MatV R1)) else if i = 6 then some (fun _ _ => (fun V _ => V = MatV S1)) else if i = 7 then some (fun lo hi V ww => NewM (w4.heap.size) lo hi V ww) else none) (by kernel_rfl) (by kernel_rfl) ?_ ?_
    · intro i Φ h lo hi v
      (repeat' split at h) <;> cases h
      · exact fun _ _ h _ => h
      · exact fun _ _ h _ => h
      · exact fun _ _ h _ => h
      · exact NewM.up
    simp only [List.take_succ_cons, List.take_zero, List.drop_succ_cons, List.drop_zero]
    repeat (first
      | (refine wpGrow_skip (by rfl) ?_; simp only [Act.put, List.setIfInBounds_toArray, List.set_cons_zero, List.set_cons_succ, Nat.reduceAdd])
      | (refine wpGrow_det' (by rfl) (by rfl) ?_; apply Exists.intro; refine ⟨fun w' hc hh => ?_, ?_⟩; (have hcell := grow_cell hc; clear hc hh; go_simp; rfl); simp only [Act.put, List.setIfInBounds_toArray, List.set_cons_zero, List.set_cons_succ, Nat.reduceAdd]))
    refine wpGrow_eff' (by rfl) (by rfl) (fun w' hc hh => ?_) (fun v lo hi w' hap hc hh hv => ?_)
    · clear hc hh
      go_simp
      go_at_call 10
      refine (M1.out _).mono ?_
      rintro e w9 ⟨rfl, hg⟩
      exact EffPost.mk hg rfl
    subst hv
    clear hc hh hap w'
    simp only [Act.put, List.setIfInBounds_toArray, List.set_cons_zero, List.set_cons_succ, Nat.reduceAdd]
    repeat (first
      | (refine wpGrow_skip (by rfl) ?_; simp only [Act.put, List.setIfInBounds_toArray, List.set_cons_zero, List.set_cons_succ, Nat.reduceAdd])
      | (refine wpGrow_det' (by rfl) (by rfl) ?_; apply Exists.intro; refine ⟨fun w' hc hh => ?_, ?_⟩; (have hcell := grow_cell hc; clear hc hh; go_simp; rfl); simp only [Act.put, List.setIfInBounds_toArray, List.set_cons_zero, List.set_cons_succ, Nat.reduceAdd]))
    refine wpGrow_eff' (by rfl) (by rfl) (fun w' hc hh => ?_) (fun v lo hi w' hap hc hh hv => ?_)
    · clear hc hh
      go_simp
      go_at_call 10
      refine (M5.out _).mono ?_
      rintro e w9 ⟨rfl, hg⟩
      exact EffPost.mk hg rfl
    subst hv
    clear hc hh hap w'
    simp only [Act.put, List.setIfInBounds_toArray, List.set_cons_zero, List.set_cons_succ, Nat.reduceAdd]
    repeat (first
      | (refine wpGrow_skip (by rfl) ?_; simp only [Act.put, List.setIfInBounds_toArray, List.set_cons_zero, List.set_cons_succ, Nat.reduceAdd])
      | (refine wpGrow_det' (by rfl) (by rfl) ?_; apply Exists.intro; refine ⟨fun w' hc hh => ?_, ?_⟩; (have hcell := grow_cell hc; clear hc hh; go_simp; rfl); simp only [Act.put, List.setIfInBounds_toArray, List.set_cons_zero, List.set_cons_succ, Nat.reduceAdd]))
    refine wpGrow_eff' (by rfl) (by rfl) (fun w' hc hh => ?_) (fun v lo hi w' hap hc hh hv => ?_)
    · clear hc hh
      go_simp
      go_at_call 12
      refine (M6.out _).mono ?_
      rintro e w9 ⟨rfl, hg⟩
      exact EffPost.mk hg rfl
    subst hv
    clear hc hh hap w'
    simp only [Act.put, List.setIfInBounds_toArray, List.set_cons_zero, List.set_cons_succ, Nat.reduceAdd]
    repeat (first
      | (refine wpGrow_skip (by rfl) ?_; simp only [Act.put, List.setIfInBounds_toArray, List.set_cons_zero, List.set_cons_succ, Nat.reduceAdd])
      | (refine wpGrow_det' (by rfl) (by rfl) ?_; apply Exists.intro; refine ⟨fun w' hc hh => ?_, ?_⟩; (have hcell := grow_cell hc; clear hc hh; go_simp; rfl); simp only [Act.put, List.setIfInBounds_toArray, List.set_cons_zero, List.set_cons_succ, Nat.reduceAdd]))
    refine wpGrow_eff' (by rfl) (by rfl) (fun w' hc hh => ?_) (fun v lo hi w' hap hc hh hv => ?_)
    · have hs := hc.size
      have hs1 := HSZ1.out
      have hs2 := HSZ2.out
      skip
      clear hc hh
      go_simp
      exact EffVal.mk ((Grow.refl _).alloc _) (by have h := NewM.mk (B := w4.heap.size) (w := w') 27 (by omega); simpa using h)
    obtain ⟨b9, rfl, Bb9, lb9, ub9, -⟩ := hv
    clear hc hh hap w'
    simp only [Act.put, List.setIfInBounds_toArray, List.set_cons_zero, List.set_cons_succ, Nat.reduceAdd]
    repeat (first
      | (refine wpGrow_skip (by rfl) ?_; simp only [Act.put, List.setIfInBounds_toArray, List.set_cons_zero, List.set_cons_succ, Nat.reduceAdd])
      | (refine wpGrow_det' (by rfl) (by rfl) ?_; apply Exists.intro; refine ⟨fun w' hc hh => ?_, ?_⟩; (have hcell := grow_cell hc; clear hc hh; go_simp; rfl); simp only [Act.put, List.setIfInBounds_toArray, List.set_cons_zero, List.set_cons_succ, Nat.reduceAdd]))
    refine wpGrow_nil ?_
    intro w5 hg hh
    obtain ⟨b9', e1, -, -, -, n9⟩ := (hh 7).1
    cases e1
    have HN9 := Lib.hid n9
    have HG5 := Lib.hid (HG4.out.trans hg)
    have HA5 := Lib.hid (C9.up _ _ HA4.out hg); have HC5 := Lib.hid (C9.up _ _ HC4.out hg); have HD5 := Lib.hid (C9.up _ _ HD4.out hg)
    have HP5 := Lib.hid (C9.up _ _ HP4.out hg); have HQ5 := Lib.hid (C9.up _ _ HQ4.out hg)
    have HB9 := Lib.hid Bb9
    have HSZ5 : Hid (w.heap.size + 1 + 1 + 1 ≤ w5.heap.size) := by have h1 := HSZ3.out; have h2 := HSZ4.out; have h3 := hg.size; show _ ≤ _; omega
    clear hg hh n9 Bb9 lb9 ub9 a0 a1 a2 a3 a4 a5 a6 a7 a8 c0 c1 c2 c3 c4 c5 c6 c7 c8 d0 d1 d2 d3 d4 d5 d6 d7 d8 la lc ld
    have z0 : w5.cell? ⟨b9, 0, none⟩ = some (.float .f64 0) := HN9.out.1 0 (by decide)
    have z1 : w5.cell? ⟨b9, 1, none⟩ = some (.float .f64 0) := HN9.out.1 1 (by decide)
    have z2 : w5.cell? ⟨b9, 2, none⟩ = some (.float .f64 0) := HN9.out.1 2 (by decide)
    have z3 : w5.cell? ⟨b9, 3, none⟩ = some (.float .f64 0) := HN9.out.1 3 (by decide)
    have z4 : w5.cell? ⟨b9, 4, none⟩ = some (.float .f64 0) := HN9.out.1 4 (by decide)
    have z5 : w5.cell? ⟨b9, 5, none⟩ = some (.float .f64 0) := HN9.out.1 5 (by decide)
    have z6 : w5.cell? ⟨b9, 6, none⟩ = some (.float .f64 0) := HN9.out.1 6 (by decide)
    have z7 : w5.cell? ⟨b9, 7, none⟩ = some (.float .f64 0) := HN9.out.1 7 (by decide)
    have z8 : w5.cell? ⟨b9, 8, none⟩ = some (.float .f64 0) := HN9.out.1 8 (by decide)
    have fz9 := HN9.out.2
    go_wp2
    have HA6 : Hid (C9 w.heap.size A ((set9 b9 S1 w5).alloc (Obj.cells #[.float .f64 4607182418800017408, .float .f64 4611686018427387904, .float .f64 4613937818241073152] 24))) := C9.up _ _ (HA5.out.nine (g := b9) (by have h1 := HB9.out; have h2 := HSZ4.out; have h3 := HSZ3.out; omega) S1) ((Grow.refl _).alloc _)
    have HC6 : Hid (C9 (w.heap.size + 1) C ((set9 b9 S1 w5).alloc (Obj.cells #[.float .f64 4607182418800017408, .float .f64 4611686018427387904, .float .f64 4613937818241073152] 24))) := C9.up _ _ (HC5.out.nine (g := b9) (by have h1 := HB9.out; have h2 := HSZ4.out; have h3 := HSZ3.out; omega) S1) ((Grow.refl _).alloc _)
    have HD6 : Hid (C9 (w.heap.size + 1 + 1) D ((set9 b9 S1 w5).alloc (Obj.cells #[.float .f64 4607182418800017408, .float .f64 4611686018427387904, .float .f64 4613937818241073152] 24))) := C9.up _ _ (HD5.out.nine (g := b9) (by have h1 := HB9.out; have h2 := HSZ4.out; have h3 := HSZ3.out; omega) S1) ((Grow.refl _).alloc _)
    have HP6 : Hid (C9 b7 P2 ((set9 b9 S1 w5).alloc (Obj.cells #[.float .f64 4607182418800017408, .float .f64 4611686018427387904, .float .f64 4613937818241073152] 24))) := C9.up _ _ (HP5.out.nine (g := b9) (by have h1 := HB9.out; have h2 := HSZ4.out; have h3 := HL7.out; omega) S1) ((Grow.refl _).alloc _)
    have HQ6 : Hid (C9 b8 Q2 ((set9 b9 S1 w5).alloc (Obj.cells #[.float .f64 4607182418800017408, .float .f64 4611686018427387904, .float .f64 4613937818241073152] 24))) := C9.up _ _ (HQ5.out.nine (g := b9) (by have h1 := HB9.out; have h2 := HSZ4.out; have h3 := HL8.out; omega) S1) ((Grow.refl _).alloc _)
    have HS6 : Hid (C9 b9 S1 ((set9 b9 S1 w5).alloc (Obj.cells #[.float .f64 4607182418800017408, .float .f64 4611686018427387904, .float .f64 4613937818241073152] 24))) := C9.up _ _ (HN9.out.nine S1).1 ((Grow.refl _).alloc _)
    have hsz9 : (set9 b9 S1 w5).heap.size = w5.heap.size := by simp only [set9, size_setCell_]
    have V0 : Hid (((set9 b9 S1 w5).alloc (Obj.cells #[.float .f64 4607182418800017408, .float .f64 4611686018427387904, .float .f64 4613937818241073152] 24)).cell? ⟨w5.heap.size, 0, none⟩ = some (.float .f64 (v3N 0))) := by show _ = _; rw [← hsz9]; go_simp; rfl
    have V1 : Hid (((set9 b9 S1 w5).alloc (Obj.cells #[.float .f64 4607182418800017408, .float .f64 4611686018427387904, .float .f64 4613937818241073152] 24)).cell? ⟨w5.heap.size, 1, none⟩ = some (.float .f64 (v3N 1))) := by show _ = _; rw [← hsz9]; go_simp; rfl
    have V2 : Hid (((set9 b9 S1 w5).alloc (Obj.cells #[.float .f64 4607182418800017408, .float .f64 4611686018427387904, .float .f64 4613937818241073152] 24)).cell? ⟨w5.heap.size, 2, none⟩ = some (.float .f64 (v3N 2))) := by show _ = _; rw [← hsz9]; go_simp; rfl
    have HG6 : Hid (Grow w ((set9 b9 S1 w5).alloc (Obj.cells #[.float .f64 4607182418800017408, .float .f64 4611686018427387904, .float .f64 4613937818241073152] 24))) := ((gb_set9 (B := w.heap.size) (GX.of_grow (fun _ h => h.elim) HG5.out) (by have h1 := HB9.out; have h2 := HSZ4.out; have h3 := HSZ3.out; omega) S1).grow (Grow.refl w) (fun k hk => hk)).alloc _
    change Code.wp _ _ _ _ ((set9 b9 S1 w5).alloc (Obj.cells #[.float .f64 4607182418800017408, .float .f64 4611686018427387904, .float .f64 4613937818241073152] 24))
    generalize ((set9 b9 S1 w5).alloc (Obj.cells #[.float .f64 4607182418800017408, .float .f64 4611686018427387904, .float .f64 4613937818241073152] 24)) = w6 at HA6 HC6 HD6 HP6 HQ6 HS6 V0 V1 V2 HG6 ⊢
    clear hsz9 HA5 HC5 HD5 HP5 HQ5 HN9 z0 z1 z2 z3 z4 z5 z6 z7 z8 fz9
    have e1 : ∀ w' : World, (Op.equalIn 10000 27 (MatV P2) (MatV Q2)).run Tryd.prog w' = .ok true w' := fun w' => by rw [E1.out w', E12.out]
    have e2 : ∀ w' : World, (Op.equalIn 10000 27 (MatV S2) (MatV S1)).run Tryd.prog w' = .ok true w' := fun w' => by rw [E2.out w', ES.out]
    have e3 : ∀ w' : World, (Op.equalIn 10000 24 (V3 v1) (V3 v4)).run Tryd.prog w' = .ok true w' := E3.out
    have e4 : ∀ w' : World, (Op.equalIn 10000 27 (MatV eyeN) (.agg #[.float .f64 0, .float .f64 0, .float .f64 0, .float .f64 0, .float .f64 0, .float .f64 0, .float .f64 0, .float .f64 0, .float .f64 0])).run Tryd.prog w' = .ok false w' := fun w' => by
      have h := run_eq9 eyeN (fun _ => 0) w'
      rw [eye_ne] at h
      exact h
    have hgd : Tryd.prog.eqGuardType Tryd.prog.depth 27 = false := by kernel_rfl
    have hgd3 : Tryd.prog.eqGuardType Tryd.prog.depth 24 = false := by kernel_rfl
    have a0 : w6.cell? ⟨w.heap.size, 0, none⟩ = some (.float .f64 (A 0)) := HA6.out 0 (by decide)
    have a1 : w6.cell? ⟨w.heap.size, 1, none⟩ = some (.float .f64 (A 1)) := HA6.out 1 (by decide)
    have a2 : w6.cell? ⟨w.heap.size, 2, none⟩ = some (.float .f64 (A 2)) := HA6.out 2 (by decide)
    have a3 : w6.cell? ⟨w.heap.size, 3, none⟩ = some (.float .f64 (A 3)) := HA6.out 3 (by decide)
    have a4 : w6.cell? ⟨w.heap.size, 4, none⟩ = some (.float .f64 (A 4)) := HA6.out 4 (by decide)
    have a5 : w6.cell? ⟨w.heap.size, 5, none⟩ = some (.float .f64 (A 5)) := HA6.out 5 (by decide)
    have a6 : w6.cell? ⟨w.heap.size, 6, none⟩ = some (.float .f64 (A 6)) := HA6.out 6 (by decide)
    have a7 : w6.cell? ⟨w.heap.size, 7, none⟩ = some (.float .f64 (A 7)) := HA6.out 7 (by decide)
    have a8 : w6.cell? ⟨w.heap.size, 8, none⟩ = some (.float .f64 (A 8)) := HA6.out 8 (by decide)
    have c0 : w6.cell? ⟨w.heap.size + 1, 0, none⟩ = some (.float .f64 (C 0)) := HC6.out 0 (by decide)
    have c1 : w6.cell? ⟨w.heap.size + 1, 1, none⟩ = some (.float .f64 (C 1)) := HC6.out 1 (by decide)
    have c2 : w6.cell? ⟨w.heap.size + 1, 2, none⟩ = some (.float .f64 (C 2)) := HC6.out 2 (by decide)
    have c3 : w6.cell? ⟨w.heap.size + 1, 3, none⟩ = some (.float .f64 (C 3)) := HC6.out 3 (by decide)
    have c4 : w6.cell? ⟨w.heap.size + 1, 4, none⟩ = some (.float .f64 (C 4)) := HC6.out 4 (by decide)
    have c5 : w6.cell? ⟨w.heap.size + 1, 5, none⟩ = some (.float .f64 (C 5)) := HC6.out 5 (by decide)
    have c6 : w6.cell? ⟨w.heap.size + 1, 6, none⟩ = some (.float .f64 (C 6)) := HC6.out 6 (by decide)
    have c7 : w6.cell? ⟨w.heap.size + 1, 7, none⟩ = some (.float .f64 (C 7)) := HC6.out 7 (by decide)
    have c8 : w6.cell? ⟨w.heap.size + 1, 8, none⟩ = some (.float .f64 (C 8)) := HC6.out 8 (by decide)
    have d0 : w6.cell? ⟨w.heap.size + 1 + 1, 0, none⟩ = some (.float .f64 (D 0)) := HD6.out 0 (by decide)
    have d1 : w6.cell? ⟨w.heap.size + 1 + 1, 1, none⟩ = some (.float .f64 (D 1)) := HD6.out 1 (by decide)
    have d2 : w6.cell? ⟨w.heap.size + 1 + 1, 2, none⟩ = some (.float .f64 (D 2)) := HD6.out 2 (by decide)
    have d3 : w6.cell? ⟨w.heap.size + 1 + 1, 3, none⟩ = some (.float .f64 (D 3)) := HD6.out 3 (by decide)
    have d4 : w6.cell? ⟨w.heap.size + 1 + 1, 4, none⟩ = some (.float .f64 (D 4)) := HD6.out 4 (by decide)
    have d5 : w6.cell? ⟨w.heap.size + 1 + 1, 5, none⟩ = some (.float .f64 (D 5)) := HD6.out 5 (by decide)
    have d6 : w6.cell? ⟨w.heap.size + 1 + 1, 6, none⟩ = some (.float .f64 (D 6)) := HD6.out 6 (by decide)
    have d7 : w6.cell? ⟨w.heap.size + 1 + 1, 7, none⟩ = some (.float .f64 (D 7)) := HD6.out 7 (by decide)
    have d8 : w6.cell? ⟨w.heap.size + 1 + 1, 8, none⟩ = some (.float .f64 (D 8)) := HD6.out 8 (by decide)
    have la := cell_lt a0
    dsimp only at la
    have lc := cell_lt c0
    dsimp only at lc
    have ld := cell_lt d0
    dsimp only at ld
    have p0 : w6.cell? ⟨b7, 0, none⟩ = some (.float .f64 (P2 0)) := HP6.out 0 (by decide)
    have p1 : w6.cell? ⟨b7, 1, none⟩ = some (.float .f64 (P2 1)) := HP6.out 1 (by decide)
    have p2 : w6.cell? ⟨b7, 2, none⟩ = some (.float .f64 (P2 2)) := HP6.out 2 (by decide)
    have p3 : w6.cell? ⟨b7, 3, none⟩ = some (.float .f64 (P2 3)) := HP6.out 3 (by decide)
    have p4 : w6.cell? ⟨b7, 4, none⟩ = some (.float .f64 (P2 4)) := HP6.out 4 (by decide)
    have p5 : w6.cell? ⟨b7, 5, none⟩ = some (.float .f64 (P2 5)) := HP6.out 5 (by decide)
    have p6 : w6.cell? ⟨b7, 6, none⟩ = some (.float .f64 (P2 6)) := HP6.out 6 (by decide)
    have p7 : w6.cell? ⟨b7, 7, none⟩ = some (.float .f64 (P2 7)) := HP6.out 7 (by decide)
    have p8 : w6.cell? ⟨b7, 8, none⟩ = some (.float .f64 (P2 8)) := HP6.out 8 (by decide)
    have q0 : w6.cell? ⟨b8, 0, none⟩ = some (.float .f64 (Q2 0)) := HQ6.out 0 (by decide)
    have q1 : w6.cell? ⟨b8, 1, none⟩ = some (.float .f64 (Q2 1)) := HQ6.out 1 (by decide)
    have q2 : w6.cell? ⟨b8, 2, none⟩ = some (.float .f64 (Q2 2)) := HQ6.out 2 (by decide)
    have q3 : w6.cell? ⟨b8, 3, none⟩ = some (.float .f64 (Q2 3)) := HQ6.out 3 (by decide)
    have q4 : w6.cell? ⟨b8, 4, none⟩ = some (.float .f64 (Q2 4)) := HQ6.out 4 (by decide)
    have q5 : w6.cell? ⟨b8, 5, none⟩ = some (.float .f64 (Q2 5)) := HQ6.out 5 (by decide)
    have q6 : w6.cell? ⟨b8, 6, none⟩ = some (.float .f64 (Q2 6)) := HQ6.out 6 (by decide)
    have q7 : w6.cell? ⟨b8, 7, none⟩ = some (.float .f64 (Q2 7)) := HQ6.out 7 (by decide)
    have q8 : w6.cell? ⟨b8, 8, none⟩ = some (.float .f64 (Q2 8)) := HQ6.out 8 (by decide)
    have s0 : w6.cell? ⟨b9, 0, none⟩ = some (.float .f64 (S1 0)) := HS6.out 0 (by decide)
    have s1 : w6.cell? ⟨b9, 1, none⟩ = some (.float .f64 (S1 1)) := HS6.out 1 (by decide)
    have s2 : w6.cell? ⟨b9, 2, none⟩ = some (.float .f64 (S1 2)) := HS6.out 2 (by decide)
    have s3 : w6.cell? ⟨b9, 3, none⟩ = some (.float .f64 (S1 3)) := HS6.out 3 (by decide)
    have s4 : w6.cell? ⟨b9, 4, none⟩ = some (.float .f64 (S1 4)) := HS6.out 4 (by decide)
    have s5 : w6.cell? ⟨b9, 5, none⟩ = some (.float .f64 (S1 5)) := HS6.out 5 (by decide)
    have s6 : w6.cell? ⟨b9, 6, none⟩ = some (.float .f64 (S1 6)) := HS6.out 6 (by decide)
    have s7 : w6.cell? ⟨b9, 7, none⟩ = some (.float .f64 (S1 7)) := HS6.out 7 (by decide)
    have s8 : w6.cell? ⟨b9, 8, none⟩ = some (.float .f64 (S1 8)) := HS6.out 8 (by decide)
    have lp := cell_lt p0
    dsimp only at lp
    have lq := cell_lt q0
    dsimp only at lq
    have ls := cell_lt s0
    dsimp only at ls
    have k0 := V0.out; have k1 := V1.out; have k2 := V2.out
    have lv := cell_lt k0
    dsimp only at lv
    refine wp_region_grow (fun i => if i = 7 then some (fun _ _ => (fun V _ => V = MatV S3)) else if i = 8 then some (fun _ _ => (fun V _ => V = MatV S2)) else if i = 15 then some (fun _ _ => (fun V _ => V = V3 v1)) else if i = 20 then some (fun _ _ => (fun V _ => V = V3 v6)) else if i = 21 then some (fun _ _ => (fun V _ => V = V3 v5)) else if i = 22 then some (fun _ _ => (fun V _ => V = V3 v4)) else if i = 26 then some (fun _ _ => (fun V _ => V = MatV eyeN)) else none) (by kernel_rfl) (by kernel_rfl) ?_ ?_
    · intro i Φ h lo hi v
      (repeat' split at h) <;> cases h
      · exact fun _ _ h _ => h
      · exact fun _ _ h _ => h
      · exact fun _ _ h _ => h
      · exact fun _ _ h _ => h
      · exact fun _ _ h _ => h
      · exact fun _ _ h _ => h
      · exact fun _ _ h _ => h
    repeat (first
      | (refine wpGrow_skip (by rfl) ?_; simp only [Act.put, List.setIfInBounds_toArray, List.set_cons_zero, List.set_cons_succ, Nat.reduceAdd])
      | (refine wpGrow_det' (by rfl) (by rfl) ?_; apply Exists.intro; refine ⟨fun w' hc hh => ?_, ?_⟩; (have hcell := grow_cell hc; clear hc hh; go_simp; rfl); simp only [Act.put, List.setIfInBounds_toArray, List.set_cons_zero, List.set_cons_succ, Nat.reduceAdd]))
    refine wpGrow_eff' (by rfl) (by rfl) (fun w' hc hh => ?_) (fun v lo hi w' hap hc hh hv => ?_)
    · clear hc hh
      go_simp
      go_at_call 12
      refine (M7.out _).mono ?_
      rintro e w9 ⟨rfl, hg⟩
      exact EffPost.mk hg rfl
    subst hv
    clear hc hh hap w'
    simp only [Act.put, List.setIfInBounds_toArray, List.set_cons_zero, List.set_cons_succ, Nat.reduceAdd]
    repeat (first
      | (refine wpGrow_skip (by rfl) ?_; simp only [Act.put, List.setIfInBounds_toArray, List.set_cons_zero, List.set_cons_succ, Nat.reduceAdd])
      | (refine wpGrow_det' (by rfl) (by rfl) ?_; apply Exists.intro; refine ⟨fun w' hc hh => ?_, ?_⟩; (have hcell := grow_cell hc; clear hc hh; go_simp; rfl); simp only [Act.put, List.setIfInBounds_toArray, List.set_cons_zero, List.set_cons_succ, Nat.reduceAdd]))
    refine wpGrow_eff' (by rfl) (by rfl) (fun w' hc hh => ?_) (fun v lo hi w' hap hc hh hv => ?_)
    · clear hc hh
      go_simp
      go_at_call 10
      refine (M8.out _).mono ?_
      rintro e w9 ⟨rfl, hg⟩
      exact EffPost.mk hg rfl
    subst hv
    clear hc hh hap w'
    simp only [Act.put, List.setIfInBounds_toArray, List.set_cons_zero, List.set_cons_succ, Nat.reduceAdd]
    repeat (first
      | (refine wpGrow_skip (by rfl) ?_; simp only [Act.put, List.setIfInBounds_toArray, List.set_cons_zero, List.set_cons_succ, Nat.reduceAdd])
      | (refine wpGrow_det' (by rfl) (by rfl) ?_; apply Exists.intro; refine ⟨fun w' hc hh => ?_, ?_⟩; (have hcell := grow_cell hc; clear hc hh; go_simp; rfl); simp only [Act.put, List.setIfInBounds_toArray, List.set_cons_zero, List.set_cons_succ, Nat.reduceAdd]))
    refine wpGrow_eff' (by rfl) (by rfl) (fun w' hc hh => ?_) (fun v lo hi w' hap hc hh hv => ?_)
    · clear hc hh
      go_simp
      go_at_call 13
      refine (M9'.out _).mono ?_
      rintro e w9 ⟨rfl, hg⟩
      exact EffPost.mk hg rfl
    subst hv
    clear hc hh hap w'
    simp only [Act.put, List.setIfInBounds_toArray, List.set_cons_zero, List.set_cons_succ, Nat.reduceAdd]
    repeat (first
      | (refine wpGrow_skip (by rfl) ?_; simp only [Act.put, List.setIfInBounds_toArray, List.set_cons_zero, List.set_cons_succ, Nat.reduceAdd])
      | (refine wpGrow_det' (by rfl) (by rfl) ?_; apply Exists.intro; refine ⟨fun w' hc hh => ?_, ?_⟩; (have hcell := grow_cell hc; clear hc hh; go_simp; rfl); simp only [Act.put, List.setIfInBounds_toArray, List.set_cons_zero, List.set_cons_succ, Nat.reduceAdd]))
    refine wpGrow_eff' (by rfl) (by rfl) (fun w' hc hh => ?_) (fun v lo hi w' hap hc hh hv => ?_)
    · clear hc hh
      go_simp
      go_at_call 13
      refine (Ma.out _).mono ?_
      rintro e w9 ⟨rfl, hg⟩
      exact EffPost.mk hg rfl
    subst hv
    clear hc hh hap w'
    simp only [Act.put, List.setIfInBounds_toArray, List.set_cons_zero, List.set_cons_succ, Nat.reduceAdd]
    repeat (first
      | (refine wpGrow_skip (by rfl) ?_; simp only [Act.put, List.setIfInBounds_toArray, List.set_cons_zero, List.set_cons_succ, Nat.reduceAdd])
      | (refine wpGrow_det' (by rfl) (by rfl) ?_; apply Exists.intro; refine ⟨fun w' hc hh => ?_, ?_⟩; (have hcell := grow_cell hc; clear hc hh; go_simp; rfl); simp only [Act.put, List.setIfInBounds_toArray, List.set_cons_zero, List.set_cons_succ, Nat.reduceAdd]))
    refine wpGrow_eff' (by rfl) (by rfl) (fun w' hc hh => ?_) (fun v lo hi w' hap hc hh hv => ?_)
    · clear hc hh
      go_simp
      go_at_call 13
      refine (Mb.out _).mono ?_
      rintro e w9 ⟨rfl, hg⟩
      exact EffPost.mk hg rfl
    subst hv
    clear hc hh hap w'
    simp only [Act.put, List.setIfInBounds_toArray, List.set_cons_zero, List.set_cons_succ, Nat.reduceAdd]
    repeat (first
      | (refine wpGrow_skip (by rfl) ?_; simp only [Act.put, List.setIfInBounds_toArray, List.set_cons_zero, List.set_cons_succ, Nat.reduceAdd])
      | (refine wpGrow_det' (by rfl) (by rfl) ?_; apply Exists.intro; refine ⟨fun w' hc hh => ?_, ?_⟩; (have hcell := grow_cell hc; clear hc hh; go_simp; rfl); simp only [Act.put, List.setIfInBounds_toArray, List.set_cons_zero, List.set_cons_succ, Nat.reduceAdd]))
    refine wpGrow_eff' (by rfl) (by rfl) (fun w' hc hh => ?_) (fun v lo hi w' hap hc hh hv => ?_)
    · clear hc hh
      go_simp
      go_at_call 13
      refine (Mc.out _).mono ?_
      rintro e w9 ⟨rfl, hg⟩
      exact EffPost.mk hg rfl
    subst hv
    clear hc hh hap w'
    simp only [Act.put, List.setIfInBounds_toArray, List.set_cons_zero, List.set_cons_succ, Nat.reduceAdd]
    repeat (first
      | (refine wpGrow_skip (by rfl) ?_; simp only [Act.put, List.setIfInBounds_toArray, List.set_cons_zero, List.set_cons_succ, Nat.reduceAdd])
      | (refine wpGrow_det' (by rfl) (by rfl) ?_; apply Exists.intro; refine ⟨fun w' hc hh => ?_, ?_⟩; (have hcell := grow_cell hc; clear hc hh; go_simp; rfl); simp only [Act.put, List.setIfInBounds_toArray, List.set_cons_zero, List.set_cons_succ, Nat.reduceAdd]))
    refine wpGrow_eff' (by rfl) (by rfl) (fun w' hc hh => ?_) (fun v lo hi w' hap hc hh hv => ?_)
    · clear hc hh
      go_simp
      go_at_call 14
      refine (matEye_calls _).mono ?_
      rintro e w9 ⟨rfl, hg⟩
      exact EffPost.mk hg rfl
    subst hv
    clear hc hh hap w'
    simp only [Act.put, List.setIfInBounds_toArray, List.set_cons_zero, List.set_cons_succ, Nat.reduceAdd]
    repeat (first
      | (refine wpGrow_skip (by rfl) ?_; simp only [Act.put, List.setIfInBounds_toArray, List.set_cons_zero, List.set_cons_succ, Nat.reduceAdd])
      | (refine wpGrow_det' (by rfl) (by rfl) ?_; apply Exists.intro; refine ⟨fun w' hc hh => ?_, ?_⟩; (have hcell := grow_cell hc; clear hc hh; go_simp; rfl); simp only [Act.put, List.setIfInBounds_toArray, List.set_cons_zero, List.set_cons_succ, Nat.reduceAdd]))
    refine wpGrow_nil ?_
    intro w7 hg hh
    have HG7 := Lib.hid (HG6.out.trans hg)
    clear hg hh
    go_wp2
    go_ret
    exact ⟨rfl, HG7.out⟩
end Go.Proofs.YtpnmcmpeecpjeaaDoor
