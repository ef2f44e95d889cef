import Derived.Test.YtpnmcmpeecpjeaaDoorMatC
namespace Go.Proofs.YtpnmcmpeecpjeaaDoor
open Go.ChangeShapes Go.WideShapes Go.ChangeAt Go.RowKit Go.GrowR
set_option linter.unusedVariables false
set_option linter.unusedSimpArgs false

def pick9 (p00 p01 p02 p10 p11 p12 p20 p21 p22 : Nat) : Nat → Nat
  | 0 => p00
  | 1 => p01
  | 2 => p02
  | 3 => p10
  | 4 => p11
  | 5 => p12
  | 6 => p20
  | 7 => p21
  | _ => p22
def Off (lo hi x y z : Nat) (V : Value) (w : World) : Prop := ∃ b, V = .slice (some ⟨b, 0, none⟩) 3 3 ∧ lo ≤ b ∧ b < hi ∧ w.cell? ⟨b, 0, none⟩ = some (.float .f64 x) ∧ w.cell? ⟨b, 1, none⟩ = some (.float .f64 y) ∧ w.cell? ⟨b, 2, none⟩ = some (.float .f64 z)
theorem Off.up {lo hi x y z : Nat} {V : Value} : Up (Off lo hi x y z V) := fun _ _ ⟨b, h0, hl, hh, h1, h2, h3⟩ hg => ⟨b, h0, hl, hh, up_cell h1 hg, up_cell h2 hg, up_cell h3 hg⟩
theorem N9.up {g : Nat} {ds : Nat → Nat} : Up (N9 g ds) := fun _ _ h hg => ⟨fun k hk => up_cell (h.1 k hk) hg, fun o => (froz_up (cell_lt (h.1 0 (by decide))) hg).trans (h.2 o)⟩
def NewM (B lo hi : Nat) (V : Value) (w : World) : Prop := ∃ b, V = .pointer (some ⟨b, 0, none⟩) ∧ B ≤ b ∧ lo ≤ b ∧ b < hi ∧ N9 b (fun _ => 0) w
theorem NewM.up {B lo hi : Nat} {V : Value} : Up (NewM B lo hi V) := fun _ _ ⟨b, h0, h1, h2, h3, h4⟩ hg => ⟨b, h0, h1, h2, h3, N9.up _ _ h4 hg⟩
theorem NewM.mk {B : Nat} {w : World} (t : TypeId) (hB : B ≤ w.heap.size) : NewM B w.heap.size (w.heap.size + 1) (.pointer (some ⟨w.heap.size, 0, none⟩)) (w.alloc (Obj.cells #[.float .f64 0, .float .f64 0, .float .f64 0, .float .f64 0, .float .f64 0, .float .f64 0, .float .f64 0, .float .f64 0, .float .f64 0] t)) := by
  refine ⟨_, rfl, hB, Nat.le_refl _, Nat.lt_succ_self _, fun k hk => ?_, fun o => by go_simp⟩
  have : k = 0 ∨ k = 1 ∨ k = 2 ∨ k = 3 ∨ k = 4 ∨ k = 5 ∨ k = 6 ∨ k = 7 ∨ k = 8 := by omega
  rcases this with rfl | rfl | rfl | rfl | rfl | rfl | rfl | rfl | rfl <;> go_simp
def U3 (b x y z : Nat) (w : World) : Prop := w.cell? ⟨b, 0, none⟩ = some (.float .f64 x) ∧ w.cell? ⟨b, 1, none⟩ = some (.float .f64 y) ∧ w.cell? ⟨b, 2, none⟩ = some (.float .f64 z)
def pick3 (x y z : Nat) : Nat → Nat
  | 0 => x
  | 1 => y
  | _ => z
theorem U3.at {b x y z k : Nat} {w : World} (h : U3 b x y z w) (hk : k < 3) : w.cell? ⟨b, k, none⟩ = some (.float .f64 (pick3 x y z k)) := by
  rcases lit3 hk with rfl | rfl | rfl
  · exact h.1
  · exact h.2.1
  · exact h.2.2
theorem U3.up {b x y z : Nat} : Up (U3 b x y z) := fun _ _ ⟨h1, h2, h3⟩ hg => ⟨up_cell h1 hg, up_cell h2 hg, up_cell h3 hg⟩
theorem U3.other {b x y z : Nat} {w : World} (h : U3 b x y z w) {p : Addr} (hp : p.block ≠ b) (v : Value) : U3 b x y z (w.setCell p v) := by
  refine ⟨?_, ?_, ?_⟩
  · rw [World.cell?_setCell_other _ _ _ _ (by intro hc; apply hp; rw [hc])]; exact h.1
  · rw [World.cell?_setCell_other _ _ _ _ (by intro hc; apply hp; rw [hc])]; exact h.2.1
  · rw [World.cell?_setCell_other _ _ _ _ (by intro hc; apply hp; rw [hc])]; exact h.2.2
theorem U3.nine {b x y z g : Nat} {w : World} (h : U3 b x y z w) (hg : g ≠ b) (ds : Nat → Nat) : U3 b x y z (set9 g ds w) :=
  ((((((((h.other (p := ⟨g, 0, none⟩) hg _).other (p := ⟨g, 1, none⟩) hg _).other (p := ⟨g, 2, none⟩) hg _).other (p := ⟨g, 3, none⟩) hg _).other (p := ⟨g, 4, none⟩) hg _).other (p := ⟨g, 5, none⟩) hg _).other (p := ⟨g, 6, none⟩) hg _).other (p := ⟨g, 7, none⟩) hg _).other (p := ⟨g, 8, none⟩) hg _
def C9 (g : Nat) (ds : Nat → Nat) (w : World) : Prop := ∀ k, k < 9 → w.cell? ⟨g, k, none⟩ = some (.float .f64 (ds k))
theorem C9.up {g : Nat} {ds : Nat → Nat} : Up (C9 g ds) := fun _ _ h hg k hk => up_cell (h k hk) hg
theorem w10_true {x : Nat} (h : Fl.wholeB 1024 x = true) : ∃ n : Int, Fl.IsI x n ∧ -1024 ≤ n ∧ n ≤ 1024 := Fl.wholeB_true h
theorem mul2 {a b : Int} (h1 : -1024 ≤ a) (h2 : a ≤ 1024) (h3 : -1024 ≤ b) (h4 : b ≤ 1024) : -1048576 ≤ a * b ∧ a * b ≤ 1048576 := by
  have := mul_bound h1 h2 h3 h4; omega
theorem mul3 {a b : Int} (h1 : -1048576 ≤ a) (h2 : a ≤ 1048576) (h3 : -1024 ≤ b) (h4 : b ≤ 1024) : -1073741824 ≤ a * b ∧ a * b ≤ 1073741824 := by
  have := mul_bound h1 h2 h3 h4; omega
set_option maxRecDepth 100000 in
set_option maxHeartbeats 4000000 in
theorem law_calls (n : Int) (x0 x1 x2 y0 y1 y2 : Nat) (w : World) :
    Calls Tryd.prog 3 #[.int .i64 n, P3V x0 x1 x2, P3V y0 y1 y2] w fun e w' => e = .returned (.bool true) ∧ Grow w w' := by
  have HS := Lib.hid (fun v w' h => small3_calls v [(x0, x1, x2), (y0, y1, y2)] w' h (by simp))
  have hp3 : ∀ w' b, w'.cell? ⟨b, 0, none⟩ = some (.float .f64 x0) → w'.cell? ⟨b, 1, none⟩ = some (.float .f64 x1) → w'.cell? ⟨b, 2, none⟩ = some (.float .f64 x2) → w'.cell? ⟨b, 3, none⟩ = some (.float .f64 y0) → w'.cell? ⟨b, 4, none⟩ = some (.float .f64 y1) → w'.cell? ⟨b, 5, none⟩ = some (.float .f64 y2) → P3l (.slice (some ⟨b, 0, none⟩) 2 2) [(x0, x1, x2), (y0, y1, y2)] w' := fun w' b h0 h1 h2 h3 h4 h5 => ⟨b, rfl, fun i p hi => by
    match i, hi with
    | 0, hi => cases hi; exact ⟨h0, h1, h2⟩
    | 1, hi => cases hi; exact ⟨h3, h4, h5⟩⟩
  have HP3 := Lib.hid hp3; clear hp3
  cases hb : [(x0, x1, x2), (y0, y1, y2)].all p3S with
  | false =>
    have HB := Lib.hid hb; clear hb
    go_enter Tryd.func3, Tryd.ntmps3
    go_wp2_with (go_at_call 6; refine (HS.out _ _ (HP3.out _ _ (by go_simp) (by go_simp) (by go_simp) (by go_simp) (by go_simp) (by go_simp))).mono ?_; rw [HB.out]; rintro e w1 ⟨rfl, hg⟩; have HG := Lib.hid (((((Grow.refl w).alloc _).alloc _).alloc _).trans hg); clear hg)
    go_ret
    exact ⟨rfl, HG.out⟩
  | true =>
    have HB := Lib.hid hb
    simp only [List.all_cons, List.all_nil, p3S, Bool.and_true, Bool.and_eq_true] at hb
    obtain ⟨⟨hx0, hx1, hx2⟩, hy0, hy1, hy2⟩ := hb
    by_cases h1 : n < -1024
    · clear hx0 hx1 hx2 hy0 hy1 hy2
      go_enter Tryd.func3, Tryd.ntmps3
      go_wp2_with (go_at_call 6; refine (HS.out _ _ (HP3.out _ _ (by go_simp) (by go_simp) (by go_simp) (by go_simp) (by go_simp) (by go_simp))).mono ?_; rw [HB.out]; rintro e w1 ⟨rfl, hg⟩; have HG := Lib.hid (((((Grow.refl w).alloc _).alloc _).alloc _).trans hg); clear hg)
      go_ret
      exact ⟨rfl, HG.out⟩
    by_cases h2 : 1024 < n
    · clear hx0 hx1 hx2 hy0 hy1 hy2
      go_enter Tryd.func3, Tryd.ntmps3
      go_wp2_with (go_at_call 6; refine (HS.out _ _ (HP3.out _ _ (by go_simp) (by go_simp) (by go_simp) (by go_simp) (by go_simp) (by go_simp))).mono ?_; rw [HB.out]; rintro e w1 ⟨rfl, hg⟩; have HG := Lib.hid (((((Grow.refl w).alloc _).alloc _).alloc _).trans hg); clear hg)
      go_ret
      exact ⟨rfl, HG.out⟩
    have hal := Fl.ofInt_I n (by omega)
    obtain ⟨X0, ix0, lx0, ux0⟩ := w10_true hx0
    obtain ⟨X1, ix1, lx1, ux1⟩ := w10_true hx1
    obtain ⟨X2, ix2, lx2, ux2⟩ := w10_true hx2
    obtain ⟨Y0, iy0, ly0, uy0⟩ := w10_true hy0
    obtain ⟨Y1, iy1, ly1, uy1⟩ := w10_true hy1
    obtain ⟨Y2, iy2, ly2, uy2⟩ := w10_true hy2
    have m0 := mul2 (a := n) (by omega) (by omega) lx0 ux0
    obtain ⟨a0, fa0, ja0⟩ := Fl.mul_I hal ix0 (by omega)
    have m1 := mul2 (a := n) (by omega) (by omega) lx1 ux1
    obtain ⟨a1, fa1, ja1⟩ := Fl.mul_I hal ix1 (by omega)
    have m2 := mul2 (a := n) (by omega) (by omega) lx2 ux2
    obtain ⟨a2, fa2, ja2⟩ := Fl.mul_I hal ix2 (by omega)
    obtain ⟨p00, fp00, jp00⟩ := Fl.mul_I ja0 iy0 (by have := mul3 m0.1 m0.2 ly0 uy0; omega)
    obtain ⟨p01, fp01, jp01⟩ := Fl.mul_I ja0 iy1 (by have := mul3 m0.1 m0.2 ly1 uy1; omega)
    obtain ⟨p02, fp02, jp02⟩ := Fl.mul_I ja0 iy2 (by have := mul3 m0.1 m0.2 ly2 uy2; omega)
    obtain ⟨p10, fp10, jp10⟩ := Fl.mul_I ja1 iy0 (by have := mul3 m1.1 m1.2 ly0 uy0; omega)
    obtain ⟨p11, fp11, jp11⟩ := Fl.mul_I ja1 iy1 (by have := mul3 m1.1 m1.2 ly1 uy1; omega)
    obtain ⟨p12, fp12, jp12⟩ := Fl.mul_I ja1 iy2 (by have := mul3 m1.1 m1.2 ly2 uy2; omega)
    obtain ⟨p20, fp20, jp20⟩ := Fl.mul_I ja2 iy0 (by have := mul3 m2.1 m2.2 ly0 uy0; omega)
    obtain ⟨p21, fp21, jp21⟩ := Fl.mul_I ja2 iy1 (by have := mul3 m2.1 m2.2 ly1 uy1; omega)
    obtain ⟨p22, fp22, jp22⟩ := Fl.mul_I ja2 iy2 (by have := mul3 m2.1 m2.2 ly2 uy2; omega)
    have HMO := Lib.hid (fun w' => matOuter_calls (floatOfInt .f64 n) x0 x1 x2 y0 y1 y2 a0 a1 a2 (pick9 p00 p01 p02 p10 p11 p12 p20 p21 p22) w' fa0 fa1 fa2 fp00 fp01 fp02 fp10 fp11 fp12 fp20 fp21 fp22)
    have HF : Hid (∀ k j, k < 3 → j < 3 → floatBits .mul .f64 (floatOfInt .f64 n) (pick3 x0 x1 x2 k) = some (pick3 a0 a1 a2 k) ∧ floatBits .mul .f64 (pick3 a0 a1 a2 k) (pick3 y0 y1 y2 j) = some (pick9 p00 p01 p02 p10 p11 p12 p20 p21 p22 (3 * k + j)) ∧ (FloatKind.f64.format.order (pick9 p00 p01 p02 p10 p11 p12 p20 p21 p22 (3 * k + j)) (pick9 p00 p01 p02 p10 p11 p12 p20 p21 p22 (3 * k + j)) == some .eq) = true) := by
      intro k j hk hj
      rcases lit3 hk with rfl | rfl | rfl <;> rcases lit3 hj with rfl | rfl | rfl
      · exact ⟨fa0, fp00, Fl.eqB jp00 jp00⟩
      · exact ⟨fa0, fp01, Fl.eqB jp01 jp01⟩
      · exact ⟨fa0, fp02, Fl.eqB jp02 jp02⟩
      · exact ⟨fa1, fp10, Fl.eqB jp10 jp10⟩
      · exact ⟨fa1, fp11, Fl.eqB jp11 jp11⟩
      · exact ⟨fa1, fp12, Fl.eqB jp12 jp12⟩
      · exact ⟨fa2, fp20, Fl.eqB jp20 jp20⟩
      · exact ⟨fa2, fp21, Fl.eqB jp21 jp21⟩
      · exact ⟨fa2, fp22, Fl.eqB jp22 jp22⟩
    have hcl := Lib.hid (trivial)
    clear hal hx0 ix0 lx0 ux0 hx1 ix1 lx1 ux1 hx2 ix2 lx2 ux2 hy0 iy0 ly0 uy0 hy1 iy1 ly1 uy1 hy2 iy2 ly2 uy2 m0 fa0 ja0 m1 fa1 ja1 m2 fa2 ja2 fp00 jp00 fp01 jp01 fp02 jp02 fp10 jp10 fp11 jp11 fp12 jp12 fp20 jp20 fp21 jp21 fp22 jp22
    go_enter Tryd.func3, Tryd.ntmps3
    go_wp2_with (go_at_call 6; refine (HS.out _ _ (HP3.out _ _ (by go_simp) (by go_simp) (by go_simp) (by go_simp) (by go_simp) (by go_simp))).mono ?_; rw [HB.out]; rintro e w1 ⟨rfl, hg⟩; have HG := Lib.hid (((((Grow.refl w).alloc _).alloc _).alloc _).trans hg); have k0 : w1.cell? ⟨w.heap.size, 0, none⟩ = some (.float .f64 x0) := up_cell (by go_simp) hg; have k1 : w1.cell? ⟨w.heap.size, 1, none⟩ = some (.float .f64 x1) := up_cell (by go_simp) hg; have k2 : w1.cell? ⟨w.heap.size, 2, none⟩ = some (.float .f64 x2) := up_cell (by go_simp) hg; have k3 : w1.cell? ⟨w.heap.size + 1, 0, none⟩ = some (.float .f64 y0) := up_cell (by go_simp) hg; have k4 : w1.cell? ⟨w.heap.size + 1, 1, none⟩ = some (.float .f64 y1) := up_cell (by go_simp) hg; have k5 : w1.cell? ⟨w.heap.size + 1, 2, none⟩ = some (.float .f64 y2) := up_cell (by go_simp) hg; clear hg)
    have lx := cell_lt k0
    have ly := cell_lt k3
    dsimp only at lx ly
    refine wp_region_grow_tail 10 (fun i => if i = 4 then some (fun _ _ => (fun V _ => V = MatV (pick9 p00 p01 p02 p10 p11 p12 p20 p21 p22))) else if i = 6 then some (fun lo hi V ww => Off lo hi x0 x1 x2 V ww) else if i = 8 then some (fun lo hi V ww => Off lo hi y0 y1 y2 V ww) else if i = 9 then some (fun lo hi V ww => NewM w.heap.size lo hi V ww) else none) (by kernel_rfl) (by kernel_rfl) ?_ ?_
    · intro i Φ h lo hi v
      (repeat' split at h) <;> cases h
      · exact fun _ _ h _ => h
      · exact Off.up
      · exact Off.up
      · exact NewM.up
    simp only [List.take_succ_cons, List.take_zero, List.drop_succ_cons, List.drop_zero]
    repeat (first
      | (refine wpGrow_skip (by rfl) ?_; simp only [Act.put, List.setIfInBounds_toArray, List.set_cons_zero, List.set_cons_succ, Nat.reduceAdd])
      | (refine wpGrow_det' (by rfl) (by rfl) ?_; apply Exists.intro; refine ⟨fun w' hc hh => ?_, ?_⟩; (have hcell := grow_cell hc; clear hc hh; go_simp; rfl); simp only [Act.put, List.setIfInBounds_toArray, List.set_cons_zero, List.set_cons_succ, Nat.reduceAdd]))
    refine wpGrow_eff' (by rfl) (by rfl) (fun w' hc hh => ?_) (fun v lo hi w' hap hc hh hv => ?_)
    · clear hc hh
      go_simp
      go_at_call 7
      refine (HMO.out _).mono ?_
      rintro e w2 ⟨rfl, hg⟩
      exact EffPost.mk hg rfl
    subst hv
    clear hc hh hap w'
    simp only [Act.put, List.setIfInBounds_toArray, List.set_cons_zero, List.set_cons_succ, Nat.reduceAdd]
    repeat (first
      | (refine wpGrow_skip (by rfl) ?_; simp only [Act.put, List.setIfInBounds_toArray, List.set_cons_zero, List.set_cons_succ, Nat.reduceAdd])
      | (refine wpGrow_det' (by rfl) (by rfl) ?_; apply Exists.intro; refine ⟨fun w' hc hh => ?_, ?_⟩; (have hcell := grow_cell hc; clear hc hh; go_simp; rfl); simp only [Act.put, List.setIfInBounds_toArray, List.set_cons_zero, List.set_cons_succ, Nat.reduceAdd]))
    refine wpGrow_eff' (by rfl) (by rfl) (fun w' hc hh => ?_) (fun v lo hi w' hap hc hh hv => ?_)
    · clear hc hh
      go_simp
      go_at_call 8
      refine (off3_calls _ _ _ _).mono ?_
      rintro e w2 ⟨b, rfl, hl, hh2, e0, e1, e2, hg⟩
      exact EffPost.mk hg ⟨b, rfl, hl, hh2, e0, e1, e2⟩
    obtain ⟨bu, rfl, lu, uu, -⟩ := hv
    clear hc hh hap w'
    simp only [Act.put, List.setIfInBounds_toArray, List.set_cons_zero, List.set_cons_succ, Nat.reduceAdd]
    repeat (first
      | (refine wpGrow_skip (by rfl) ?_; simp only [Act.put, List.setIfInBounds_toArray, List.set_cons_zero, List.set_cons_succ, Nat.reduceAdd])
      | (refine wpGrow_det' (by rfl) (by rfl) ?_; apply Exists.intro; refine ⟨fun w' hc hh => ?_, ?_⟩; (have hcell := grow_cell hc; clear hc hh; go_simp; rfl); simp only [Act.put, List.setIfInBounds_toArray, List.set_cons_zero, List.set_cons_succ, Nat.reduceAdd]))
    refine wpGrow_eff' (by rfl) (by rfl) (fun w' hc hh => ?_) (fun v lo hi w' hap hc hh hv => ?_)
    · clear hc hh
      go_simp
      go_at_call 8
      refine (off3_calls _ _ _ _).mono ?_
      rintro e w2 ⟨b, rfl, hl, hh2, e0, e1, e2, hg⟩
      exact EffPost.mk hg ⟨b, rfl, hl, hh2, e0, e1, e2⟩
    obtain ⟨bv, rfl, lv, uv, -⟩ := hv
    clear hc hh hap w'
    simp only [Act.put, List.setIfInBounds_toArray, List.set_cons_zero, List.set_cons_succ, Nat.reduceAdd]
    repeat (first
      | (refine wpGrow_skip (by rfl) ?_; simp only [Act.put, List.setIfInBounds_toArray, List.set_cons_zero, List.set_cons_succ, Nat.reduceAdd])
      | (refine wpGrow_det' (by rfl) (by rfl) ?_; apply Exists.intro; refine ⟨fun w' hc hh => ?_, ?_⟩; (have hcell := grow_cell hc; clear hc hh; go_simp; rfl); simp only [Act.put, List.setIfInBounds_toArray, List.set_cons_zero, List.set_cons_succ, Nat.reduceAdd]))
    refine wpGrow_eff' (by rfl) (by rfl) (fun w' hc hh => ?_) (fun v lo hi w' hap hc hh hv => ?_)
    · have hs := hc.size
      have hs1 := HG.out.size
      clear hc hh
      go_simp
      exact EffVal.mk ((Grow.refl _).alloc _) (by have h := NewM.mk (B := w.heap.size) (w := w') 27 (by omega); simpa using h)
    obtain ⟨bm, rfl, hB, lm, um, -⟩ := hv
    have nu : bm ≠ bu := by have := hap 6 _ _ rfl; omega
    have nv : bm ≠ bv := by have := hap 8 _ _ rfl; omega
    clear hc hh hap w'
    simp only [Act.put, List.setIfInBounds_toArray, List.set_cons_zero, List.set_cons_succ, Nat.reduceAdd]
    repeat (first
      | (refine wpGrow_skip (by rfl) ?_; simp only [Act.put, List.setIfInBounds_toArray, List.set_cons_zero, List.set_cons_succ, Nat.reduceAdd])
      | (refine wpGrow_det' (by rfl) (by rfl) ?_; apply Exists.intro; refine ⟨fun w' hc hh => ?_, ?_⟩; (have hcell := grow_cell hc; clear hc hh; go_simp; rfl); simp only [Act.put, List.setIfInBounds_toArray, List.set_cons_zero, List.set_cons_succ, Nat.reduceAdd]))
    refine wpGrow_nil ?_
    intro w2 hg hh
    have HU := (hh 6).1
    have HW := (hh 8).1
    have HNM := (hh 9).1
    obtain ⟨bu', e1, -, -, u0, u1, u2⟩ := HU
    cases e1
    obtain ⟨bv', e1, -, -, v0, v1, v2⟩ := HW
    cases e1
    obtain ⟨bm', e1, -, -, -, n9⟩ := HNM
    cases e1
    have HN := Lib.hid n9
    have z0 : w2.cell? ⟨bm, 0, none⟩ = some (.float .f64 0) := HN.out.1 0 (by decide)
    have z1 : w2.cell? ⟨bm, 1, none⟩ = some (.float .f64 0) := HN.out.1 1 (by decide)
    have z2 : w2.cell? ⟨bm, 2, none⟩ = some (.float .f64 0) := HN.out.1 2 (by decide)
    have z3 : w2.cell? ⟨bm, 3, none⟩ = some (.float .f64 0) := HN.out.1 3 (by decide)
    have z4 : w2.cell? ⟨bm, 4, none⟩ = some (.float .f64 0) := HN.out.1 4 (by decide)
    have z5 : w2.cell? ⟨bm, 5, none⟩ = some (.float .f64 0) := HN.out.1 5 (by decide)
    have z6 : w2.cell? ⟨bm, 6, none⟩ = some (.float .f64 0) := HN.out.1 6 (by decide)
    have z7 : w2.cell? ⟨bm, 7, none⟩ = some (.float .f64 0) := HN.out.1 7 (by decide)
    have z8 : w2.cell? ⟨bm, 8, none⟩ = some (.float .f64 0) := HN.out.1 8 (by decide)
    have fz := HN.out.2
    have NU := Lib.hid nu; have NV := Lib.hid nv; have HBB := Lib.hid hB
    have HG2 := Lib.hid (HG.out.trans hg)
    have HU := Lib.hid (show U3 bu x0 x1 x2 w2 from ⟨u0, u1, u2⟩)
    have HV := Lib.hid (show U3 bv y0 y1 y2 w2 from ⟨v0, v1, v2⟩)
    clear hh hg u0 u1 u2 v0 v1 v2 k0 k1 k2 k3 k4 k5 lx ly n9 nu nv hB lu uu lv uv lm um
    go_wp2
    go_loopw [36] (fun i wr => ∃ k : Nat, i = .int .i64 k ∧ k ≤ 3 ∧ Grow w wr ∧ C9 bm (pick9 p00 p01 p02 p10 p11 p12 p20 p21 p22) wr ∧ U3 bu x0 x1 x2 wr ∧ U3 bv y0 y1 y2 wr) (fun i _ => 3 - (intOf i).toNat)
    case atStart =>
      show ∃ k : Nat, _ ∧ k ≤ 3 ∧ Grow w (set9 bm (pick9 p00 p01 p02 p10 p11 p12 p20 p21 p22) w2) ∧ C9 bm (pick9 p00 p01 p02 p10 p11 p12 p20 p21 p22) (set9 bm (pick9 p00 p01 p02 p10 p11 p12 p20 p21 p22) w2) ∧ U3 bu x0 x1 x2 (set9 bm (pick9 p00 p01 p02 p10 p11 p12 p20 p21 p22) w2) ∧ U3 bv y0 y1 y2 (set9 bm (pick9 p00 p01 p02 p10 p11 p12 p20 p21 p22) w2)
      exact ⟨0, rfl, Nat.zero_le _, (gb_set9 (GX.of_grow (fun _ h => h.elim) HG2.out) HBB.out _).grow (Grow.refl w) (fun k hk => hk), (HN.out.nine _).1, HU.out.nine NU.out _, HV.out.nine NV.out _⟩
    case round =>
      clear HG2 HU HV HN z0 z1 z2 z3 z4 z5 z6 z7 z8 fz
      obtain ⟨k, rfl, hk, hg, h9, hu, hv⟩ := hrel
      have HG3 := Lib.hid hg; have H9 := Lib.hid h9; have HU := Lib.hid hu; have HV := Lib.hid hv
      clear hg h9 hu hv
      by_cases hk3 : k < 3
      case neg =>
        have e : k = 3 := by omega
        subst e
        go_wp2
        go_ret
        exact ⟨rfl, HG3.out⟩
      case pos =>
        clear hk
        go_wp2
        rw [show decide ((k : Int) < 3) = true from decide_eq_true (by omega)]
        have HK3 := Lib.hid hk3
        clear hk3
        go_loopw [41] (fun i wr => ∃ j : Nat, i = .int .i64 j ∧ j ≤ 3 ∧ Grow w wr ∧ C9 bm (pick9 p00 p01 p02 p10 p11 p12 p20 p21 p22) wr ∧ U3 bu x0 x1 x2 wr ∧ U3 bv y0 y1 y2 wr) (fun i _ => 3 - (intOf i).toNat)
        case atStart => exact ⟨0, rfl, Nat.zero_le _, HG3.out, H9.out, HU.out, HV.out⟩
        case round =>
          clear HG3 H9 HU HV
          obtain ⟨j, rfl, hj, hg, h9, hu, hv⟩ := hrel
          have HG3 := Lib.hid hg; have H9 := Lib.hid h9; have HU := Lib.hid hu; have HV := Lib.hid hv
          clear hg h9 hu hv
          by_cases hj3 : j < 3
          case neg =>
            have e : j = 3 := by omega
            subst e
            go_wp2
            exact ⟨⟨k + 1, by go_num, HK3.out, HG3.out, H9.out, HU.out, HV.out⟩, by have := HK3.out; simp [intOf]; omega⟩
          case pos =>
            obtain ⟨f1, f2, he⟩ := HF.out k j HK3.out hj3
            have g1 := fop (P := Tryd.prog) f1
            have g2 := fop (P := Tryd.prog) f2
            have HE := Lib.hid he
            have c0 := H9.out (3 * k + j) (by have := HK3.out; omega)
            have cu := HU.out.at HK3.out
            have cv := HV.out.at hj3
            clear f1 f2 he hj
            generalize pick9 p00 p01 p02 p10 p11 p12 p20 p21 p22 (3 * k + j) = p at c0 g2 HE
            generalize pick3 x0 x1 x2 k = x at cu g1
            generalize pick3 a0 a1 a2 k = aa at g1 g2
            generalize pick3 y0 y1 y2 j = y at cv g2
            have lc := cell_lt c0
            have bb : 3 * k + j < 9 := by have := HK3.out; omega
            have HJ4 : Hid (j + 1 ≤ 3) := hj3
            go_wp2
            go_quiet (fail)
            cases hb : (FloatKind.f64.format.order p p != some .eq) with
            | true => have h := HE.out; rw [bne, h] at hb; cases hb
            | false =>
              go_wp2
              exact ⟨⟨j + 1, by go_num, HJ4.out, HG3.out.drewN _, C9.up _ _ H9.out ((Grow.refl _).drewN _), U3.up _ _ HU.out ((Grow.refl _).drewN _), U3.up _ _ HV.out ((Grow.refl _).drewN _)⟩, by have := HJ4.out; simp [intOf]; omega⟩
end Go.Proofs.YtpnmcmpeecpjeaaDoor
