import Derived.Test.YtlkoaanagbgpkaaSortB
namespace Go.Proofs.Ytlkoaanagbgpkaa
open Go.ChangeShapes Go.WideShapes Go.ChangeAt Go.RowKit Go.GrowR
set_option linter.unusedVariables false
set_option linter.unusedSimpArgs false
theorem layStride (lay : Int) (s : Nat) (w : World) (h1 : 1 ≤ lay) (h9 : lay ≤ 9) (hs : strideN lay = s) : Calls Try.prog 101 #[.int .i64 lay] w fun e w' => e = .returned (.int .i64 s) ∧ w' = w := by
  have HS := Lib.hid hs; clear hs
  by_cases e1 : lay = 1
  · subst e1
    have hs := HS.out
    obtain rfl : s = 2 := by have : strideN 1 = 2 := rfl
                             omega
    clear hs
    go_enter Try.func101, Try.ntmps101
    go_wp2
    go_ret
    exact ⟨rfl, rfl⟩
  by_cases e2 : lay = 2
  · subst e2
    have hs := HS.out
    obtain rfl : s = 3 := by have : strideN 2 = 3 := rfl
                             omega
    clear hs
    go_enter Try.func101, Try.ntmps101
    go_wp2
    go_ret
    exact ⟨rfl, rfl⟩
  by_cases e3 : lay = 3
  · subst e3
    have hs := HS.out
    obtain rfl : s = 3 := by have : strideN 3 = 3 := rfl
                             omega
    clear hs
    go_enter Try.func101, Try.ntmps101
    go_wp2
    go_ret
    exact ⟨rfl, rfl⟩
  have hs := HS.out
  obtain rfl : lay = s := by
    unfold strideN at hs
    repeat' split at hs
    all_goals omega
  clear hs
  by_cases e4 : s = 4
  · subst e4
    go_enter Try.func101, Try.ntmps101
    go_wp2
    go_ret
    exact ⟨rfl, rfl⟩
  have f0 : ((s : Int) == 0) = false := by rw [beq_eq_false_iff_ne]; omega
  have f1 : ((s : Int) == 1) = false := by rw [beq_eq_false_iff_ne]; omega
  have f2 : ((s : Int) == 2) = false := by rw [beq_eq_false_iff_ne]; omega
  have f3 : ((s : Int) == 3) = false := by rw [beq_eq_false_iff_ne]; omega
  have f4 : ((s : Int) == 4) = false := by rw [beq_eq_false_iff_ne]; omega
  have g0 : (s == 0) = false := by rw [beq_eq_false_iff_ne]; omega
  have g1 : (s == 1) = false := by rw [beq_eq_false_iff_ne]; omega
  have g2 : (s == 2) = false := by rw [beq_eq_false_iff_ne]; omega
  have g3 : (s == 3) = false := by rw [beq_eq_false_iff_ne]; omega
  have g4 : (s == 4) = false := by rw [beq_eq_false_iff_ne]; omega
  clear e1 e2 e3 e4
  go_enter Try.func101, Try.ntmps101
  go_wp2
  go_ret
  exact ⟨rfl, rfl⟩
abbrev FC (A : Option Addr) (n c : Nat) (lay : Int) (s : Nat) : Value := .agg #[.func (Fn.func 116) #[] #[], .slice A n c, .int .i64 lay, .int .i64 s]
set_option maxHeartbeats 4000000 in
theorem newFlat (lay : Int) (s : Nat) (A : Option Addr) (n c : Nat) (w : World) (h1 : 1 ≤ lay) (h9 : lay ≤ 9) (hs : strideN lay = s) :
    Calls Try.prog 115 #[.int .i64 lay, .slice A n c, .func (Fn.func 116) #[] #[]] w fun e w' => e = .returned (FC A n c lay s) ∧ Grow w w' := by
  have HS := Lib.hid (fun w => layStride lay s w h1 h9 hs); clear hs
  go_enter Try.func115, Try.ntmps115
  go_wp2_with (go_at_call 101; refine (HS.out _).mono ?_; rintro e w' ⟨rfl, rfl⟩)
  exact bodyPost_ret (v := FC A n c lay s) (by simp [results, Try.results115, go_sem]) rfl ⟨rfl, (Grow.refl w).alloc _⟩
set_option maxHeartbeats 4000000 in
theorem newFlat2 (lay : Int) (s : Nat) (A : Option Addr) (n c : Nat) (w : World) (h1 : 1 ≤ lay) (h9 : lay ≤ 9) (hs : strideN lay = s) :
    Calls Try.prog 80 #[.int .i64 lay, .slice A n c] w fun e w' => e = .returned (FC A n c lay s) ∧ Grow w w' := by
  have HS := Lib.hid (fun w => newFlat lay s A n c w h1 h9 hs); clear hs
  go_enter Try.func80, Try.ntmps80
  go_wp2_with (go_at_call 115; refine (HS.out _).mono ?_; rintro e w1 ⟨rfl, hg⟩; have c0 := up_cell (a := ⟨w.heap.size, 0, none⟩) (v := .nilFunc) (by go_simp) hg; have c1 := up_cell (a := ⟨w.heap.size, 1, none⟩) (v := .slice none 0 0) (by go_simp) hg; have c2 := up_cell (a := ⟨w.heap.size, 2, none⟩) (v := .int .i64 0) (by go_simp) hg; have c3 := up_cell (a := ⟨w.heap.size, 3, none⟩) (v := .int .i64 0) (by go_simp) hg; have hfr : ∀ o, w1.frozen? ⟨w.heap.size, o, none⟩ = false := fun o => (grow_frozen hg _ _ (by simp)).trans (by go_simp); have HG := Lib.hid hg; clear hg)
  exact bodyPost_ret (v := FC A n c lay s) (by simp [results, Try.results80, go_sem, c0, c1, c2, c3]) rfl ⟨rfl, ((((((Grow.refl w).alloc _).trans HG.out).setCell (by simp) _).setCell (by simp) _).setCell (by simp) _).setCell (by simp) _⟩
set_option maxHeartbeats 2000000 in
theorem less_calls (b o c n s i j p q x0 x1 y0 y1 : Nat) (lay : Int) (w : World) (s2 : 2 ≤ s) (s9 : s ≤ 9) (hn : n ≤ 1000) (hc : n ≤ c) (hp : (i : Int) * (s : Int) = p) (hq : (j : Int) * (s : Int) = q) (hpn : p + s ≤ n) (hqn : q + s ≤ n)
    (h0 : w.cell? ⟨b, o + p, none⟩ = some (.float .f64 x0)) (h1 : w.cell? ⟨b, o + p + 1, none⟩ = some (.float .f64 x1)) (k0 : w.cell? ⟨b, o + q, none⟩ = some (.float .f64 y0)) (k1 : w.cell? ⟨b, o + q + 1, none⟩ = some (.float .f64 y1)) (hx : numB x0 = true) (hy : numB y0 = true) :
    Calls Try.prog 81 #[FC (some ⟨b, o, none⟩) n c lay s, .int .i64 i, .int .i64 j] w (Told (less2 x0 x1 y0 y1) w) := by
  have e1 : p ≤ n := by omega
  have e2 : q ≤ n := by omega
  have e3 : (p : Int) + (s : Int) ≤ (c : Int) := by omega
  have e4 : (q : Int) + (s : Int) ≤ (c : Int) := by omega
  have e5 : ¬ c = p := by omega
  have e6 : ¬ c = q := by omega
  have HX := Lib.hid hx; have HY := Lib.hid hy; clear hx hy
  have H0 := Lib.hid h0; have H1 := Lib.hid h1; have K0 := Lib.hid k0; have K1 := Lib.hid k1; clear h0 h1 k0 k1
  have wp0 : IntKind.i64.wrap (p : Int) = (p : Int) := IntWalk.i64_in _ (by omega)
  have wq0 : IntKind.i64.wrap (q : Int) = (q : Int) := IntWalk.i64_in _ (by omega)
  go_enter Try.func81, Try.ntmps81
  go_wp2
  refine wp_region_grow (fun i => none) (by kernel_rfl) (by kernel_rfl) ?_ ?_
  · intro i Φ h lo hi v
    cases h
  repeat (first
    | (refine wpGrow_skip (by rfl) ?_; simp only [Act.put, List.setIfInBounds_toArray, List.set_cons_zero, List.set_cons_succ, Nat.reduceAdd])
    | (refine wpGrow_det' (by rfl) (by rfl) ?_; apply Exists.intro; refine ⟨fun w' hc hh => ?_, ?_⟩; (have hcell := grow_cell hc; clear hc hh; go_simp; rfl); simp only [Act.put, List.setIfInBounds_toArray, List.set_cons_zero, List.set_cons_succ, Nat.reduceAdd]))
  refine wpGrow_nil ?_
  intro w1 hg hh
  have c0 := up_cell (a := ⟨w.heap.size, 0, none⟩) (v := .func (Fn.func 116) #[] #[]) (by go_simp) hg
  have c1 := up_cell (a := ⟨w.heap.size, 1, none⟩) (v := .slice (some ⟨b, o, none⟩) n c) (by go_simp) hg
  have c3 := up_cell (a := ⟨w.heap.size, 3, none⟩) (v := .int .i64 s) (by go_simp) hg
  have hz : w.heap.size < w1.heap.size := by have := hg.size; simp at this; omega
  have HG1 := Lib.hid (((Grow.refl w).alloc _).trans hg)
  clear hg hh
  have ap1 : IntKind.i64.wrap ((p : Int) + (s : Int)) = (p : Int) + (s : Int) := IntWalk.i64_in _ (by omega)
  have ap2 : (0 : Int) ≤ (p : Int) + (s : Int) := by omega
  have ap3 : ((p : Int) + (s : Int)).toNat = p + s := by omega
  have ap4 : (p : Int) ≤ (p : Int) + (s : Int) := by omega
  have aq1 : IntKind.i64.wrap ((q : Int) + (s : Int)) = (q : Int) + (s : Int) := IntWalk.i64_in _ (by omega)
  have aq2 : (0 : Int) ≤ (q : Int) + (s : Int) := by omega
  have aq3 : ((q : Int) + (s : Int)).toNat = q + s := by omega
  have aq4 : (q : Int) ≤ (q : Int) + (s : Int) := by omega
  have ap5 : max ((p : Int) + (s : Int)) 0 = (p : Int) + (s : Int) := by omega
  have ap6 : (p : Int).toNat = p := by omega
  have ap7 : p + s - p = s := by omega
  have aq5 : max ((q : Int) + (s : Int)) 0 = (q : Int) + (s : Int) := by omega
  have aq6 : (q : Int).toNat = q := by omega
  have aq7 : q + s - q = s := by omega
  go_wp2
  refine wp_region_grow (fun i => if i = 18 then some (fun _ _ V _ => V = .bool (less2 x0 x1 y0 y1)) else none) (by kernel_rfl) (by kernel_rfl) ?_ ?_
  · intro i Φ h lo hi v
    (repeat' split at h) <;> cases h
    · exact fun _ _ h _ => h
  repeat (first
    | (refine wpGrow_skip (by rfl) ?_; simp only [Act.put, List.setIfInBounds_toArray, List.set_cons_zero, List.set_cons_succ, Nat.reduceAdd])
    | (refine wpGrow_det' (by rfl) (by rfl) ?_; apply Exists.intro; refine ⟨fun w' hc hh => ?_, ?_⟩; (have hcell := grow_cell hc; clear hc hh; go_simp; rfl); simp only [Act.put, List.setIfInBounds_toArray, List.set_cons_zero, List.set_cons_succ, Nat.reduceAdd]))
  refine wpGrow_eff' (by rfl) (by rfl) (fun w' hc hh => ?_) (fun v lo hi w' hap hc hh hv => ?_)
  · have HK := Lib.hid (isLess_calls b (o + p) s (c - p) b (o + q) s (c - q) x0 x1 y0 y1 w' s2 s2 (up_cell H0.out (HG1.out.trans hc)) (up_cell H1.out (HG1.out.trans hc)) (up_cell K0.out (HG1.out.trans hc)) (up_cell K1.out (HG1.out.trans hc)) HX.out HY.out)
    clear hc hh
    go_simp
    go_at_call 116
    refine HK.out.mono ?_
    rintro e w2 ⟨rfl, hg⟩
    exact EffPost.mk hg rfl
  subst hv
  clear hc hh hap w'
  simp only [Act.put, List.setIfInBounds_toArray, List.set_cons_zero, List.set_cons_succ, Nat.reduceAdd]
  repeat (first
    | (refine wpGrow_skip (by rfl) ?_; simp only [Act.put, List.setIfInBounds_toArray, List.set_cons_zero, List.set_cons_succ, Nat.reduceAdd])
    | (refine wpGrow_det' (by rfl) (by rfl) ?_; apply Exists.intro; refine ⟨fun w' hc hh => ?_, ?_⟩; (have hcell := grow_cell hc; clear hc hh; go_simp; rfl); simp only [Act.put, List.setIfInBounds_toArray, List.set_cons_zero, List.set_cons_succ, Nat.reduceAdd]))
  refine wpGrow_nil ?_
  intro w2 hg2 hh
  have HG2 := Lib.hid (HG1.out.trans hg2)
  clear hg2 hh
  go_wp2
  go_ret
  exact Told.mk rfl HG2.out
end Go.Proofs.Ytlkoaanagbgpkaa
