import Derived.Test.YtemobphkgbhhhaaBoxA
import Derived.Test.YtemobphkgbhhhaaFB
import Derived.Deep.QuietTactic
import Derived.BigQuiet
namespace Go.Proofs.Ytemobphkgbhhhaa
open Go.ChangeShapes Go.WideShapes Go.ChangeAt Go.RowKit Go.GrowR
set_option linter.unusedVariables false
set_option linter.unusedSimpArgs false

/-- a new row of floats -/
def NewF (B : Nat) (lo hi m : Nat) (xs : List Nat) (V : Value) (w : World) : Prop := ∃ b c, V = .slice (some ⟨b, 0, none⟩) m c ∧ m ≤ c ∧ B ≤ b ∧ lo ≤ b ∧ b < hi ∧ FB b xs w
theorem NewF.up {B lo hi m : Nat} {xs : List Nat} {V : Value} : Up (NewF B lo hi m xs V) := fun _ _ ⟨b, c, h0, h1, h2, h3, h4, h5⟩ hg => ⟨b, c, h0, h1, h2, h3, h4, FB.up _ _ h5 hg⟩
/-- a bounds with rows of its own -/
def BO (B : Nat) (n : Int) (b b1 c1 b2 c2 m : Nat) (xs ys : List Nat) (w : World) : Prop := B ≤ b ∧ B ≤ b1 ∧ B ≤ b2 ∧ b ≠ b1 ∧ b ≠ b2 ∧ b1 ≠ b2 ∧ m ≤ c1 ∧ m ≤ c2 ∧
  w.cell? ⟨b, 0, none⟩ = some (.int .i64 n) ∧ w.cell? ⟨b, 1, none⟩ = some (.slice (some ⟨b1, 0, none⟩) m c1) ∧ w.cell? ⟨b, 2, none⟩ = some (.slice (some ⟨b2, 0, none⟩) m c2) ∧ FB b1 xs w ∧ FB b2 ys w
theorem BO.up {B : Nat} {n : Int} {b b1 c1 b2 c2 m : Nat} {xs ys : List Nat} : Up (BO B n b b1 c1 b2 c2 m xs ys) := fun _ _ ⟨h0, h1, h2, h3, h4, h5, h6, h7, h8, h9, h10, h11, h12⟩ hg => ⟨h0, h1, h2, h3, h4, h5, h6, h7, up_cell h8 hg, up_cell h9 hg, up_cell h10 hg, FB.up _ _ h11 hg, FB.up _ _ h12 hg⟩
def BOx (B : Nat) (n : Int) (m : Nat) (xs ys : List Nat) (V : Value) (w : World) : Prop := ∃ b b1 c1 b2 c2, V = .pointer (some ⟨b, 0, none⟩) ∧ BO B n b b1 c1 b2 c2 m xs ys w
theorem BOx.up {B : Nat} {n : Int} {m : Nat} {xs ys : List Nat} {V : Value} : Up (BOx B n m xs ys V) := fun _ _ ⟨b, b1, c1, b2, c2, h0, h1⟩ hg => ⟨b, b1, c1, b2, c2, h0, BO.up _ _ h1 hg⟩
theorem doorBoundsO (B : Nat) (n : Int) (b1 c1 b2 c2 m : Nat) (xs ys : List Nat) (w : World) (hn : b1 ≠ b2) (h1 : B ≤ b1) (h2 : B ≤ b2) (hB : B ≤ w.heap.size) (hc1 : m ≤ c1) (hc2 : m ≤ c2) (hu : FB b1 xs w) (hv : FB b2 ys w) :
    Calls Try.prog 90 #[.int .i64 n, .slice (some ⟨b1, 0, none⟩) m c1, .slice (some ⟨b2, 0, none⟩) m c2] w (EffPost (fun _ _ => BOx B n m xs ys) w) := by
  have HU := Lib.hid hu
  have HV := Lib.hid hv
  clear hu hv
  go_enter Try.func90, Try.ntmps90
  go_wp2
  go_ret
  refine EffPost.mk ((Grow.refl w).alloc _) ⟨_, _, _, _, _, rfl, hB, h1, h2, ?_, ?_, hn, hc1, hc2, by go_simp, by go_simp, by go_simp, FB.up _ _ HU.out ((Grow.refl w).alloc _), FB.up _ _ HV.out ((Grow.refl w).alloc _)⟩
  · have := HU.out.1; omega
  · have := HV.out.1; omega
set_option maxHeartbeats 2000000 in
theorem boxO_calls (n : Int) (u v : Value) (xs ys : List Nat) (w : World) (hu : FSl u xs w) (hv : FSl v ys w) (m : Nat) (hx0 : 0 < m) (hxm : xs.length = m) (hym : ys.length = m) (hl : m ≤ 1099511627776) : Calls Try.prog 52 #[BxV n u v] w (EffPost (fun _ _ => BOx w.heap.size n m xs ys) w) := by
  have HU := Lib.hid hu
  have HV := Lib.hid hv
  obtain ⟨A, c, rfl, -, -⟩ := hu
  obtain ⟨B, d, rfl, -, -⟩ := hv
  have HXM := Lib.hid hxm; have HYM := Lib.hid hym; clear hxm hym
  go_enter Try.func52, Try.ntmps52
  go_wp2
  refine wp_region_grow (fun i => if i = 4 then some (fun lo hi V ww => NewF w.heap.size lo hi m xs V ww) else if i = 7 then some (fun lo hi V ww => NewF w.heap.size lo hi m ys V ww) else if i = 8 then some (fun _ _ => BOx w.heap.size n m xs ys) else none) (by kernel_rfl) (by kernel_rfl) ?_ ?_
  · intro i Φ h lo hi v
    (repeat' split at h) <;> cases h
    · exact NewF.up
    · exact NewF.up
    · exact BOx.up
  repeat (first
    | (refine wpGrow_skip (by rfl) ?_; simp only [Act.put, List.setIfInBounds_toArray, List.set_cons_zero, List.set_cons_succ, Nat.reduceAdd])
    | (refine wpGrow_det' (by rfl) (by rfl) ?_; apply Exists.intro; refine ⟨fun w' hc hh => ?_, ?_⟩; (have hcell := grow_cell hc; clear hc hh; go_simp; rfl); simp only [Act.put, List.setIfInBounds_toArray, List.set_cons_zero, List.set_cons_succ, Nat.reduceAdd]))
  refine wpGrow_eff' (by rfl) (by rfl) (fun w' hc hh => ?_) (fun v lo hi w' hap hc hh hv => ?_)
  · have HX := Lib.hid (FSl.up _ _ HU.out (((Grow.refl w).alloc _).trans hc))
    have hsz := hc.size
    clear hc hh
    go_simp
    go_at_call 59
    refine (floats_calls _ xs _ HX.out (by rw [HXM.out]; exact hl)).mono ?_
    rintro e w2 ⟨V, rfl, hg, hown⟩
    obtain ⟨b, c, rfl, hcc, hbb, hfb⟩ := hown.fb (by rw [HXM.out]; exact hx0)
    rw [HXM.out] at hcc ⊢
    exact EffPost.mk hg ⟨b, c, rfl, hcc, by simp at hsz; omega, hbb, hfb.1, hfb⟩
  obtain ⟨b4, c4, rfl, k4, l4, m4, n4, -⟩ := hv
  clear hc hh hap w'
  simp only [Act.put, List.setIfInBounds_toArray, List.set_cons_zero, List.set_cons_succ, Nat.reduceAdd]
  repeat (first
    | (refine wpGrow_skip (by rfl) ?_; simp only [Act.put, List.setIfInBounds_toArray, List.set_cons_zero, List.set_cons_succ, Nat.reduceAdd])
    | (refine wpGrow_det' (by rfl) (by rfl) ?_; apply Exists.intro; refine ⟨fun w' hc hh => ?_, ?_⟩; (have hcell := grow_cell hc; clear hc hh; go_simp; rfl); simp only [Act.put, List.setIfInBounds_toArray, List.set_cons_zero, List.set_cons_succ, Nat.reduceAdd]))
  refine wpGrow_eff' (by rfl) (by rfl) (fun w' hc hh => ?_) (fun v lo hi w' hap hc hh hv => ?_)
  · have HX := Lib.hid (FSl.up _ _ HV.out (((Grow.refl w).alloc _).trans hc))
    have hsz := hc.size
    clear hc hh
    go_simp
    go_at_call 59
    refine (floats_calls _ ys _ HX.out (by rw [HYM.out]; exact hl)).mono ?_
    rintro e w2 ⟨V, rfl, hg, hown⟩
    obtain ⟨b, c, rfl, hcc, hbb, hfb⟩ := hown.fb (by rw [HYM.out]; exact hx0)
    rw [HYM.out] at hcc ⊢
    exact EffPost.mk hg ⟨b, c, rfl, hcc, by simp at hsz; omega, hbb, hfb.1, hfb⟩
  obtain ⟨b7, c7, rfl, k7, l7, m7, n7, -⟩ := hv
  have hne : b4 ≠ b7 := by have := hap 4 _ _ rfl; omega
  clear hc hh hap w'
  simp only [Act.put, List.setIfInBounds_toArray, List.set_cons_zero, List.set_cons_succ, Nat.reduceAdd]
  repeat (first
    | (refine wpGrow_skip (by rfl) ?_; simp only [Act.put, List.setIfInBounds_toArray, List.set_cons_zero, List.set_cons_succ, Nat.reduceAdd])
    | (refine wpGrow_det' (by rfl) (by rfl) ?_; apply Exists.intro; refine ⟨fun w' hc hh => ?_, ?_⟩; (have hcell := grow_cell hc; clear hc hh; go_simp; rfl); simp only [Act.put, List.setIfInBounds_toArray, List.set_cons_zero, List.set_cons_succ, Nat.reduceAdd]))
  refine wpGrow_eff' (by rfl) (by rfl) (fun w' hc hh => ?_) (fun v lo hi w' hap hc hh hv => ?_)
  · have H0 := Lib.hid (hh 4 (anc_of 9 (by kernel_rfl)))
    have H1 := Lib.hid (hh 7 (anc_of 9 (by kernel_rfl)))
    have hsz := hc.size
    clear hc hh
    go_simp
    go_at_call 90
    obtain ⟨b4', c4', e4, -, -, -, -, hf4⟩ := H0.out
    obtain ⟨b7', c7', e7, -, -, -, -, hf7⟩ := H1.out
    cases e4; cases e7
    exact doorBoundsO _ n _ _ _ _ m xs ys _ hne l4 l7 (by simp at hsz; omega) k4 k7 hf4 hf7
  obtain ⟨b, x1, x2, x3, x4, rfl, -⟩ := hv
  clear hc hh hap w'
  simp only [Act.put, List.setIfInBounds_toArray, List.set_cons_zero, List.set_cons_succ, Nat.reduceAdd]
  repeat (first
    | (refine wpGrow_skip (by rfl) ?_; simp only [Act.put, List.setIfInBounds_toArray, List.set_cons_zero, List.set_cons_succ, Nat.reduceAdd])
    | (refine wpGrow_det' (by rfl) (by rfl) ?_; apply Exists.intro; refine ⟨fun w' hc hh => ?_, ?_⟩; (have hcell := grow_cell hc; clear hc hh; go_simp; rfl); simp only [Act.put, List.setIfInBounds_toArray, List.set_cons_zero, List.set_cons_succ, Nat.reduceAdd]))
  refine wpGrow_nil ?_
  intro w1 hg hh
  have HB := Lib.hid (hh 8).1
  clear hh
  go_wp2
  go_ret
  exact EffPost.mk (((Grow.refl w).alloc _).trans hg) HB.out
def Parts3 (n : Int) (u v : Value) (w : World) (e : Ending) (w' : World) : Prop := e = .returned (.tuple #[.int .i64 n, u, v]) ∧ Grow w w'
set_option maxHeartbeats 2000000 in
theorem parts_calls (b : Nat) (n : Int) (A1 A2 : Option Addr) (n1 c1 n2 c2 : Nat) (w : World) (h0 : w.cell? ⟨b, 0, none⟩ = some (.int .i64 n)) (h1 : w.cell? ⟨b, 1, none⟩ = some (.slice A1 n1 c1)) (h2 : w.cell? ⟨b, 2, none⟩ = some (.slice A2 n2 c2)) :
    Calls Try.prog 89 #[.pointer (some ⟨b, 0, none⟩)] w (Parts3 n (.slice A1 n1 c1) (.slice A2 n2 c2) w) := by
  go_enter Try.func89, Try.ntmps89
  go_wp2
  go_quiet (fail)
  go_wp2
  exact bodyPost_ret (v := .tuple #[.int .i64 n, .slice A1 n1 c1, .slice A2 n2 c2]) (by simp [results, Try.results89, go_sem]) rfl ⟨rfl, (Grow.refl w).drewN _⟩
def PlainB (n : Int) (xs ys : List Nat) (w : World) (e : Ending) (w' : World) : Prop := ∃ u v, e = .returned (BxV n u v) ∧ VOwn 36 w.heap.size u (xs.map (.float .f64)) w' ∧ VOwn 36 w.heap.size v (ys.map (.float .f64)) w' ∧ Grow w w'
set_option maxHeartbeats 2000000 in
theorem plainBox_calls (B : Nat) (n : Int) (b b1 c1 b2 c2 m : Nat) (xs ys : List Nat) (w : World) (h : BO B n b b1 c1 b2 c2 m xs ys w) (hxm : xs.length = m) (hym : ys.length = m) (hl : m ≤ 1099511627776) :
    Calls Try.prog 50 #[.pointer (some ⟨b, 0, none⟩)] w (PlainB n xs ys w) := by
  obtain ⟨-, -, -, -, -, -, k1, k2, h0, h1, h2, f1, f2⟩ := h
  have F1 := Lib.hid (f1.fsl (c := c1) (by omega)); have F2 := Lib.hid (f2.fsl (c := c2) (by omega)); clear f1 f2
  rw [hxm] at F1; rw [hym] at F2
  have hl1 : xs.length ≤ 1099511627776 := by omega
  have hl2 : ys.length ≤ 1099511627776 := by omega
  clear hxm hym
  have hlt := cell_ltH h0
  have KP := Lib.hid (fun w' (hg : Grow w w') => parts_calls b n _ _ _ _ _ _ w' (up_cell h0 hg) (up_cell h1 hg) (up_cell h2 hg))
  clear h0 h1 h2
  go_enter Try.func50, Try.ntmps50
  go_wp2_with fail
  refine (KP.out _ ((Grow.refl w).alloc _)).mono ?_
  rintro e w1 ⟨rfl, hg1⟩
  have HG1 := Lib.hid hg1
  clear hg1
  go_wp2_with fail
  refine (floats_calls _ xs _ (FSl.up _ _ F1.out (((Grow.refl w).alloc _).trans HG1.out)) hl1).mono ?_
  rintro e w2 ⟨U, rfl, hg2, ho2⟩
  have HG2 := Lib.hid (HG1.out.trans hg2)
  obtain ⟨A3, n3, c3, rfl⟩ := ho2.isSl
  have HO2 := Lib.hid (ho2.mono (B' := w.heap.size + 1) (by have := HG1.out.size; simpa using this))
  clear hg2 ho2
  go_wp2_with fail
  refine (floats_calls _ ys _ (FSl.up _ _ F2.out (((Grow.refl w).alloc _).trans HG2.out)) hl2).mono ?_
  rintro e w3 ⟨V, rfl, hg3, ho3⟩
  have hg := HG2.out.trans hg3
  obtain ⟨A4, n4, c4, rfl⟩ := ho3.isSl
  have HO3 := Lib.hid (ho3.mono (B' := w.heap.size + 1) (by have := HG2.out.size; simpa using this))
  have HO4 := Lib.hid (VOwn.up _ _ HO2.out hg3)
  have c0 := up_cell (a := ⟨w.heap.size, 0, none⟩) (v := .int .i64 0) (by go_simp) hg
  have c1' := up_cell (a := ⟨w.heap.size, 1, none⟩) (v := .slice none 0 0) (by go_simp) hg
  have c2' := up_cell (a := ⟨w.heap.size, 2, none⟩) (v := .slice none 0 0) (by go_simp) hg
  have hf : ∀ o, w3.frozen? ⟨w.heap.size, o, none⟩ = false := fun o => (grow_frozen hg _ _ (by simp <;> omega)).trans (by go_simp)
  have HG := Lib.hid hg
  clear hg hg3 ho3
  go_wp2
  refine bodyPost_ret (v := BxV n (.slice A3 n3 c3) (.slice A4 n4 c4)) (by simp [results, Try.results50, go_sem, c0, c1', c2']) rfl ⟨_, _, rfl, ?_, ?_, (((((Grow.refl w).alloc _).trans HG.out).setCell (by simp) _).setCell (by simp) _).setCell (by simp) _⟩
  · exact (((HO4.out.setCell (by simp) _).setCell (by simp) _).setCell (by simp) _).mono (by omega)
  · exact (((HO3.out.setCell (by simp) _).setCell (by simp) _).setCell (by simp) _).mono (by omega)
end Go.Proofs.Ytemobphkgbhhhaa
