import Derived.Test.YtkcpjndelcfmhaaDoorHbS
import Derived.Test.YtkcpjndelcfmhaaDoorHbF
import Derived.Test.YtkcpjndelcfmhaaDoorHbI
namespace Go.Proofs.YtkcpjndelcfmhaaDoor
open Go.ChangeShapes Go.WideShapes Go.ChangeAt Go.RowKit Go.GrowR
set_option linter.unusedVariables false
set_option linter.unusedSimpArgs false
@[go_sem] theorem mDo_swap (v : Value) (w : World) : (method 184 49 v "pub-orthodrome/pub/gonum/spatial/curve.do").run Tryd.prog w = .ok (23, v) w := by kernel_rfl
@[go_sem] theorem nDo_swap (a : Array Value) (w : World) : (nilAhead 184 49 (.agg a) "pub-orthodrome/pub/gonum/spatial/curve.do").run Tryd.prog w = .ok (some false) w := by kernel_rfl
@[go_sem] theorem mDo_flip (v : Value) (w : World) : (method 184 51 v "pub-orthodrome/pub/gonum/spatial/curve.do").run Tryd.prog w = .ok (24, v) w := by kernel_rfl
@[go_sem] theorem nDo_flip (a : Array Value) (w : World) : (nilAhead 184 51 (.agg a) "pub-orthodrome/pub/gonum/spatial/curve.do").run Tryd.prog w = .ok (some false) w := by kernel_rfl

theorem TuQ.zero {g m : Nat} {w w' : World} {e : Ending} (h : TuQ g m true w e w') : e = .returned (.tuple #[]) ∧ G1 g w w' ∧ IB g (List.replicate m 0) w' := by
  obtain ⟨h1, h2, ys, h3, h4, h5⟩ := h
  exact ⟨h1, h2, by rw [← h5 rfl]; exact h4⟩
theorem rep_zero (m : Nat) : ∀ x ∈ List.replicate m (0 : Int), x = 0 := fun x hx => List.eq_of_mem_replicate hx
structure Pr (m : Nat) (i j : Int) : Prop where
  a : 0 ≤ i
  b : i < m
  c : 0 ≤ j
  d : j < m
  e : i ≠ j
set_option maxRecDepth 100000 in
set_option maxHeartbeats 4000000 in
theorem do2_swap_swap_any (i j k l : Int) (g m c : Nat) (rev : Bool) (xs : List Int) (w : World) (hx : IB g xs w) (hl : xs.length = m) (h1 : Pr m i j) (h2 : Pr m k l) :
    Calls Tryd.prog 25 #[.bool rev, .int .i64 1, .slice (some ⟨g, 0, none⟩) m c, .agg #[.int .i64 i, .int .i64 j], .agg #[.int .i64 k, .int .i64 l]] w (TuQ g m false w) := by
  have HX := Lib.hid hx; have HL := Lib.hid hl
  have HA := Lib.hid (fun (ys : List Int) w' (h : IB g ys w') (hl : ys.length = m)  => swap_any i j g m c ys w' h hl h1.a h1.b h1.c h1.d h1.e )
  have HB := Lib.hid (fun (ys : List Int) w' (h : IB g ys w') (hl : ys.length = m)  => swap_any k l g m c ys w' h hl h2.a h2.b h2.c h2.d h2.e )
  clear hx hl h1 h2
  cases rev
  · go_enter Tryd.func25, Tryd.ntmps25
    go_wp2_with fail
    have hg := ((Grow.refl w).alloc (.cells #[.int .i64 i, .int .i64 j] 49)).alloc (.cells #[.int .i64 k, .int .i64 l] 49)
    have k0 : ((w.alloc (.cells #[.int .i64 i, .int .i64 j] 49)).alloc (.cells #[.int .i64 k, .int .i64 l] 49)).cell? ⟨w.heap.size, 0, none⟩ = some (.int .i64 i) := by go_simp
    have k1 : ((w.alloc (.cells #[.int .i64 i, .int .i64 j] 49)).alloc (.cells #[.int .i64 k, .int .i64 l] 49)).cell? ⟨w.heap.size, 1, none⟩ = some (.int .i64 j) := by go_simp
    have k2 : ((w.alloc (.cells #[.int .i64 i, .int .i64 j] 49)).alloc (.cells #[.int .i64 k, .int .i64 l] 49)).cell? ⟨w.heap.size + 1, 0, none⟩ = some (.int .i64 k) := by go_simp
    have k3 : ((w.alloc (.cells #[.int .i64 i, .int .i64 j] 49)).alloc (.cells #[.int .i64 k, .int .i64 l] 49)).cell? ⟨w.heap.size + 1, 1, none⟩ = some (.int .i64 l) := by go_simp
    have hgs := HX.out.1
    have HX0 := Lib.hid (IB.up _ _ HX.out hg)
    have HG0 := Lib.hid hg
    clear hg HX
    generalize (w.alloc (.cells #[.int .i64 i, .int .i64 j] 49)).alloc (.cells #[.int .i64 k, .int .i64 l] 49) = W at *
    obtain ⟨q, hq⟩ : ∃ q, q = w.heap.size := ⟨_, rfl⟩
    rw [← hq] at k0 k1 k2 k3 hgs ⊢
    clear hq
    refine (HA.out _ W HX0.out HL.out ).mono ?_
    rintro e w1 ⟨rfl, hg1, ys, hyl, hy, hyz⟩
    have m0 := (hg1.cell _ 0 (cell_ltH k0) (by simp; omega)).trans k0
    have m1 := (hg1.cell _ 1 (cell_ltH k1) (by simp; omega)).trans k1
    have m2 := (hg1.cell _ 0 (cell_ltH k2) (by simp; omega)).trans k2
    have m3 := (hg1.cell _ 1 (cell_ltH k3) (by simp; omega)).trans k3
    have HY := Lib.hid hy; have HYL := Lib.hid hyl; have HYZ := Lib.hid hyz
    have HG1 := Lib.hid ((G1.of (g := g) HG0.out).trans hg1)
    clear hg1 hy hyl hyz k0 k1 k2 k3 HX0
    go_wp2_with fail
    refine (HB.out _ _ HY.out HYL.out ).mono ?_
    rintro e w2 ⟨rfl, hg2, zs, hzl, hz, hzz⟩
    go_wp2
    exact bodyPost_end (results_none rfl _ _ _) rfl ⟨rfl, HG1.out.trans hg2, zs, hzl, hz, fun h => by cases h⟩
  · go_enter Tryd.func25, Tryd.ntmps25
    go_wp2_with fail
    have hg := ((Grow.refl w).alloc (.cells #[.int .i64 i, .int .i64 j] 49)).alloc (.cells #[.int .i64 k, .int .i64 l] 49)
    have k0 : ((w.alloc (.cells #[.int .i64 i, .int .i64 j] 49)).alloc (.cells #[.int .i64 k, .int .i64 l] 49)).cell? ⟨w.heap.size, 0, none⟩ = some (.int .i64 i) := by go_simp
    have k1 : ((w.alloc (.cells #[.int .i64 i, .int .i64 j] 49)).alloc (.cells #[.int .i64 k, .int .i64 l] 49)).cell? ⟨w.heap.size, 1, none⟩ = some (.int .i64 j) := by go_simp
    have k2 : ((w.alloc (.cells #[.int .i64 i, .int .i64 j] 49)).alloc (.cells #[.int .i64 k, .int .i64 l] 49)).cell? ⟨w.heap.size + 1, 0, none⟩ = some (.int .i64 k) := by go_simp
    have k3 : ((w.alloc (.cells #[.int .i64 i, .int .i64 j] 49)).alloc (.cells #[.int .i64 k, .int .i64 l] 49)).cell? ⟨w.heap.size + 1, 1, none⟩ = some (.int .i64 l) := by go_simp
    have hgs := HX.out.1
    have HX0 := Lib.hid (IB.up _ _ HX.out hg)
    have HG0 := Lib.hid hg
    clear hg HX
    generalize (w.alloc (.cells #[.int .i64 i, .int .i64 j] 49)).alloc (.cells #[.int .i64 k, .int .i64 l] 49) = W at *
    obtain ⟨q, hq⟩ : ∃ q, q = w.heap.size := ⟨_, rfl⟩
    rw [← hq] at k0 k1 k2 k3 hgs ⊢
    clear hq
    refine (HB.out _ W HX0.out HL.out ).mono ?_
    rintro e w1 ⟨rfl, hg1, ys, hyl, hy, hyz⟩
    have m0 := (hg1.cell _ 0 (cell_ltH k0) (by simp; omega)).trans k0
    have m1 := (hg1.cell _ 1 (cell_ltH k1) (by simp; omega)).trans k1
    have m2 := (hg1.cell _ 0 (cell_ltH k2) (by simp; omega)).trans k2
    have m3 := (hg1.cell _ 1 (cell_ltH k3) (by simp; omega)).trans k3
    have HY := Lib.hid hy; have HYL := Lib.hid hyl; have HYZ := Lib.hid hyz
    have HG1 := Lib.hid ((G1.of (g := g) HG0.out).trans hg1)
    clear hg1 hy hyl hyz k0 k1 k2 k3 HX0
    go_wp2_with fail
    refine (HA.out _ _ HY.out HYL.out ).mono ?_
    rintro e w2 ⟨rfl, hg2, zs, hzl, hz, hzz⟩
    go_wp2
    exact bodyPost_end (results_none rfl _ _ _) rfl ⟨rfl, HG1.out.trans hg2, zs, hzl, hz, fun h => by cases h⟩
set_option maxRecDepth 100000 in
set_option maxHeartbeats 4000000 in
theorem do2_swap_swap_zero (i j k l : Int) (g m c : Nat) (rev : Bool)  (w : World) (hx : IB g (List.replicate m (0 : Int)) w) (hl : (List.replicate m (0 : Int)).length = m) (h1 : Pr m i j) (h2 : Pr m k l) :
    Calls Tryd.prog 25 #[.bool rev, .int .i64 0, .slice (some ⟨g, 0, none⟩) m c, .agg #[.int .i64 i, .int .i64 j], .agg #[.int .i64 k, .int .i64 l]] w (TuQ g m true w) := by
  have HX := Lib.hid hx; have HL := Lib.hid hl
  have HA := Lib.hid (fun (ys : List Int) w' (h : IB g ys w') (hl : ys.length = m) (hz : ∀ x ∈ ys, x = 0) => swap_zero i j g m c ys w' h hl h1.a h1.b h1.c h1.d h1.e hz)
  have HB := Lib.hid (fun (ys : List Int) w' (h : IB g ys w') (hl : ys.length = m) (hz : ∀ x ∈ ys, x = 0) => swap_zero k l g m c ys w' h hl h2.a h2.b h2.c h2.d h2.e hz)
  clear hx hl h1 h2
  cases rev
  · go_enter Tryd.func25, Tryd.ntmps25
    go_wp2_with fail
    have hg := ((Grow.refl w).alloc (.cells #[.int .i64 i, .int .i64 j] 49)).alloc (.cells #[.int .i64 k, .int .i64 l] 49)
    have k0 : ((w.alloc (.cells #[.int .i64 i, .int .i64 j] 49)).alloc (.cells #[.int .i64 k, .int .i64 l] 49)).cell? ⟨w.heap.size, 0, none⟩ = some (.int .i64 i) := by go_simp
    have k1 : ((w.alloc (.cells #[.int .i64 i, .int .i64 j] 49)).alloc (.cells #[.int .i64 k, .int .i64 l] 49)).cell? ⟨w.heap.size, 1, none⟩ = some (.int .i64 j) := by go_simp
    have k2 : ((w.alloc (.cells #[.int .i64 i, .int .i64 j] 49)).alloc (.cells #[.int .i64 k, .int .i64 l] 49)).cell? ⟨w.heap.size + 1, 0, none⟩ = some (.int .i64 k) := by go_simp
    have k3 : ((w.alloc (.cells #[.int .i64 i, .int .i64 j] 49)).alloc (.cells #[.int .i64 k, .int .i64 l] 49)).cell? ⟨w.heap.size + 1, 1, none⟩ = some (.int .i64 l) := by go_simp
    have hgs := HX.out.1
    have HX0 := Lib.hid (IB.up _ _ HX.out hg)
    have HG0 := Lib.hid hg
    clear hg HX
    generalize (w.alloc (.cells #[.int .i64 i, .int .i64 j] 49)).alloc (.cells #[.int .i64 k, .int .i64 l] 49) = W at *
    obtain ⟨q, hq⟩ : ∃ q, q = w.heap.size := ⟨_, rfl⟩
    rw [← hq] at k0 k1 k2 k3 hgs ⊢
    clear hq
    refine (HA.out _ W HX0.out HL.out (rep_zero m)).mono ?_
    rintro e w1 ⟨rfl, hg1, ys, hyl, hy, hyz⟩
    have m0 := (hg1.cell _ 0 (cell_ltH k0) (by simp; omega)).trans k0
    have m1 := (hg1.cell _ 1 (cell_ltH k1) (by simp; omega)).trans k1
    have m2 := (hg1.cell _ 0 (cell_ltH k2) (by simp; omega)).trans k2
    have m3 := (hg1.cell _ 1 (cell_ltH k3) (by simp; omega)).trans k3
    have HY := Lib.hid hy; have HYL := Lib.hid hyl; have HYZ := Lib.hid hyz
    have HG1 := Lib.hid ((G1.of (g := g) HG0.out).trans hg1)
    clear hg1 hy hyl hyz k0 k1 k2 k3 HX0
    go_wp2_with fail
    refine (HB.out _ _ HY.out HYL.out (by rw [HYZ.out trivial]; exact rep_zero m)).mono ?_
    rintro e w2 ⟨rfl, hg2, zs, hzl, hz, hzz⟩
    go_wp2
    exact bodyPost_end (results_none rfl _ _ _) rfl ⟨rfl, HG1.out.trans hg2, zs, hzl, hz, fun _ => hzz trivial⟩
  · go_enter Tryd.func25, Tryd.ntmps25
    go_wp2_with fail
    have hg := ((Grow.refl w).alloc (.cells #[.int .i64 i, .int .i64 j] 49)).alloc (.cells #[.int .i64 k, .int .i64 l] 49)
    have k0 : ((w.alloc (.cells #[.int .i64 i, .int .i64 j] 49)).alloc (.cells #[.int .i64 k, .int .i64 l] 49)).cell? ⟨w.heap.size, 0, none⟩ = some (.int .i64 i) := by go_simp
    have k1 : ((w.alloc (.cells #[.int .i64 i, .int .i64 j] 49)).alloc (.cells #[.int .i64 k, .int .i64 l] 49)).cell? ⟨w.heap.size, 1, none⟩ = some (.int .i64 j) := by go_simp
    have k2 : ((w.alloc (.cells #[.int .i64 i, .int .i64 j] 49)).alloc (.cells #[.int .i64 k, .int .i64 l] 49)).cell? ⟨w.heap.size + 1, 0, none⟩ = some (.int .i64 k) := by go_simp
    have k3 : ((w.alloc (.cells #[.int .i64 i, .int .i64 j] 49)).alloc (.cells #[.int .i64 k, .int .i64 l] 49)).cell? ⟨w.heap.size + 1, 1, none⟩ = some (.int .i64 l) := by go_simp
    have hgs := HX.out.1
    have HX0 := Lib.hid (IB.up _ _ HX.out hg)
    have HG0 := Lib.hid hg
    clear hg HX
    generalize (w.alloc (.cells #[.int .i64 i, .int .i64 j] 49)).alloc (.cells #[.int .i64 k, .int .i64 l] 49) = W at *
    obtain ⟨q, hq⟩ : ∃ q, q = w.heap.size := ⟨_, rfl⟩
    rw [← hq] at k0 k1 k2 k3 hgs ⊢
    clear hq
    refine (HB.out _ W HX0.out HL.out (rep_zero m)).mono ?_
    rintro e w1 ⟨rfl, hg1, ys, hyl, hy, hyz⟩
    have m0 := (hg1.cell _ 0 (cell_ltH k0) (by simp; omega)).trans k0
    have m1 := (hg1.cell _ 1 (cell_ltH k1) (by simp; omega)).trans k1
    have m2 := (hg1.cell _ 0 (cell_ltH k2) (by simp; omega)).trans k2
    have m3 := (hg1.cell _ 1 (cell_ltH k3) (by simp; omega)).trans k3
    have HY := Lib.hid hy; have HYL := Lib.hid hyl; have HYZ := Lib.hid hyz
    have HG1 := Lib.hid ((G1.of (g := g) HG0.out).trans hg1)
    clear hg1 hy hyl hyz k0 k1 k2 k3 HX0
    go_wp2_with fail
    refine (HA.out _ _ HY.out HYL.out (by rw [HYZ.out trivial]; exact rep_zero m)).mono ?_
    rintro e w2 ⟨rfl, hg2, zs, hzl, hz, hzz⟩
    go_wp2
    exact bodyPost_end (results_none rfl _ _ _) rfl ⟨rfl, HG1.out.trans hg2, zs, hzl, hz, fun _ => hzz trivial⟩
set_option maxRecDepth 100000 in
set_option maxHeartbeats 4000000 in
theorem do2_flip_flip_any (i j k l : Int) (g m c : Nat) (rev : Bool) (xs : List Int) (w : World) (hx : IB g xs w) (hl : xs.length = m) (h1 : Pr m i j) (h2 : Pr m k l) :
    Calls Tryd.prog 27 #[.bool rev, .int .i64 1, .slice (some ⟨g, 0, none⟩) m c, .agg #[.int .i64 i, .int .i64 j], .agg #[.int .i64 k, .int .i64 l]] w (TuQ g m false w) := by
  have HX := Lib.hid hx; have HL := Lib.hid hl
  have HA := Lib.hid (fun (ys : List Int) w' (h : IB g ys w') (hl : ys.length = m)  => flip_any i j g m c ys w' h hl h1.a h1.b h1.c h1.d h1.e )
  have HB := Lib.hid (fun (ys : List Int) w' (h : IB g ys w') (hl : ys.length = m)  => flip_any k l g m c ys w' h hl h2.a h2.b h2.c h2.d h2.e )
  clear hx hl h1 h2
  cases rev
  · go_enter Tryd.func27, Tryd.ntmps27
    go_wp2_with fail
    have hg := ((Grow.refl w).alloc (.cells #[.int .i64 i, .int .i64 j] 51)).alloc (.cells #[.int .i64 k, .int .i64 l] 51)
    have k0 : ((w.alloc (.cells #[.int .i64 i, .int .i64 j] 51)).alloc (.cells #[.int .i64 k, .int .i64 l] 51)).cell? ⟨w.heap.size, 0, none⟩ = some (.int .i64 i) := by go_simp
    have k1 : ((w.alloc (.cells #[.int .i64 i, .int .i64 j] 51)).alloc (.cells #[.int .i64 k, .int .i64 l] 51)).cell? ⟨w.heap.size, 1, none⟩ = some (.int .i64 j) := by go_simp
    have k2 : ((w.alloc (.cells #[.int .i64 i, .int .i64 j] 51)).alloc (.cells #[.int .i64 k, .int .i64 l] 51)).cell? ⟨w.heap.size + 1, 0, none⟩ = some (.int .i64 k) := by go_simp
    have k3 : ((w.alloc (.cells #[.int .i64 i, .int .i64 j] 51)).alloc (.cells #[.int .i64 k, .int .i64 l] 51)).cell? ⟨w.heap.size + 1, 1, none⟩ = some (.int .i64 l) := by go_simp
    have hgs := HX.out.1
    have HX0 := Lib.hid (IB.up _ _ HX.out hg)
    have HG0 := Lib.hid hg
    clear hg HX
    generalize (w.alloc (.cells #[.int .i64 i, .int .i64 j] 51)).alloc (.cells #[.int .i64 k, .int .i64 l] 51) = W at *
    obtain ⟨q, hq⟩ : ∃ q, q = w.heap.size := ⟨_, rfl⟩
    rw [← hq] at k0 k1 k2 k3 hgs ⊢
    clear hq
    refine (HA.out _ W HX0.out HL.out ).mono ?_
    rintro e w1 ⟨rfl, hg1, ys, hyl, hy, hyz⟩
    have m0 := (hg1.cell _ 0 (cell_ltH k0) (by simp; omega)).trans k0
    have m1 := (hg1.cell _ 1 (cell_ltH k1) (by simp; omega)).trans k1
    have m2 := (hg1.cell _ 0 (cell_ltH k2) (by simp; omega)).trans k2
    have m3 := (hg1.cell _ 1 (cell_ltH k3) (by simp; omega)).trans k3
    have HY := Lib.hid hy; have HYL := Lib.hid hyl; have HYZ := Lib.hid hyz
    have HG1 := Lib.hid ((G1.of (g := g) HG0.out).trans hg1)
    clear hg1 hy hyl hyz k0 k1 k2 k3 HX0
    go_wp2_with fail
    refine (HB.out _ _ HY.out HYL.out ).mono ?_
    rintro e w2 ⟨rfl, hg2, zs, hzl, hz, hzz⟩
    go_wp2
    exact bodyPost_end (results_none rfl _ _ _) rfl ⟨rfl, HG1.out.trans hg2, zs, hzl, hz, fun h => by cases h⟩
  · go_enter Tryd.func27, Tryd.ntmps27
    go_wp2_with fail
    have hg := ((Grow.refl w).alloc (.cells #[.int .i64 i, .int .i64 j] 51)).alloc (.cells #[.int .i64 k, .int .i64 l] 51)
    have k0 : ((w.alloc (.cells #[.int .i64 i, .int .i64 j] 51)).alloc (.cells #[.int .i64 k, .int .i64 l] 51)).cell? ⟨w.heap.size, 0, none⟩ = some (.int .i64 i) := by go_simp
    have k1 : ((w.alloc (.cells #[.int .i64 i, .int .i64 j] 51)).alloc (.cells #[.int .i64 k, .int .i64 l] 51)).cell? ⟨w.heap.size, 1, none⟩ = some (.int .i64 j) := by go_simp
    have k2 : ((w.alloc (.cells #[.int .i64 i, .int .i64 j] 51)).alloc (.cells #[.int .i64 k, .int .i64 l] 51)).cell? ⟨w.heap.size + 1, 0, none⟩ = some (.int .i64 k) := by go_simp
    have k3 : ((w.alloc (.cells #[.int .i64 i, .int .i64 j] 51)).alloc (.cells #[.int .i64 k, .int .i64 l] 51)).cell? ⟨w.heap.size + 1, 1, none⟩ = some (.int .i64 l) := by go_simp
    have hgs := HX.out.1
    have HX0 := Lib.hid (IB.up _ _ HX.out hg)
    have HG0 := Lib.hid hg
    clear hg HX
    generalize (w.alloc (.cells #[.int .i64 i, .int .i64 j] 51)).alloc (.cells #[.int .i64 k, .int .i64 l] 51) = W at *
    obtain ⟨q, hq⟩ : ∃ q, q = w.heap.size := ⟨_, rfl⟩
    rw [← hq] at k0 k1 k2 k3 hgs ⊢
    clear hq
    refine (HB.out _ W HX0.out HL.out ).mono ?_
    rintro e w1 ⟨rfl, hg1, ys, hyl, hy, hyz⟩
    have m0 := (hg1.cell _ 0 (cell_ltH k0) (by simp; omega)).trans k0
    have m1 := (hg1.cell _ 1 (cell_ltH k1) (by simp; omega)).trans k1
    have m2 := (hg1.cell _ 0 (cell_ltH k2) (by simp; omega)).trans k2
    have m3 := (hg1.cell _ 1 (cell_ltH k3) (by simp; omega)).trans k3
    have HY := Lib.hid hy; have HYL := Lib.hid hyl; have HYZ := Lib.hid hyz
    have HG1 := Lib.hid ((G1.of (g := g) HG0.out).trans hg1)
    clear hg1 hy hyl hyz k0 k1 k2 k3 HX0
    go_wp2_with fail
    refine (HA.out _ _ HY.out HYL.out ).mono ?_
    rintro e w2 ⟨rfl, hg2, zs, hzl, hz, hzz⟩
    go_wp2
    exact bodyPost_end (results_none rfl _ _ _) rfl ⟨rfl, HG1.out.trans hg2, zs, hzl, hz, fun h => by cases h⟩
set_option maxRecDepth 100000 in
set_option maxHeartbeats 4000000 in
theorem do2_flip_flip_zero (i j k l : Int) (g m c : Nat) (rev : Bool)  (w : World) (hx : IB g (List.replicate m (0 : Int)) w) (hl : (List.replicate m (0 : Int)).length = m) (h1 : Pr m i j) (h2 : Pr m k l) :
    Calls Tryd.prog 27 #[.bool rev, .int .i64 0, .slice (some ⟨g, 0, none⟩) m c, .agg #[.int .i64 i, .int .i64 j], .agg #[.int .i64 k, .int .i64 l]] w (TuQ g m true w) := by
  have HX := Lib.hid hx; have HL := Lib.hid hl
  have HA := Lib.hid (fun (ys : List Int) w' (h : IB g ys w') (hl : ys.length = m) (hz : ∀ x ∈ ys, x = 0) => flip_zero i j g m c ys w' h hl h1.a h1.b h1.c h1.d h1.e hz)
  have HB := Lib.hid (fun (ys : List Int) w' (h : IB g ys w') (hl : ys.length = m) (hz : ∀ x ∈ ys, x = 0) => flip_zero k l g m c ys w' h hl h2.a h2.b h2.c h2.d h2.e hz)
  clear hx hl h1 h2
  cases rev
  · go_enter Tryd.func27, Tryd.ntmps27
    go_wp2_with fail
    have hg := ((Grow.refl w).alloc (.cells #[.int .i64 i, .int .i64 j] 51)).alloc (.cells #[.int .i64 k, .int .i64 l] 51)
    have k0 : ((w.alloc (.cells #[.int .i64 i, .int .i64 j] 51)).alloc (.cells #[.int .i64 k, .int .i64 l] 51)).cell? ⟨w.heap.size, 0, none⟩ = some (.int .i64 i) := by go_simp
    have k1 : ((w.alloc (.cells #[.int .i64 i, .int .i64 j] 51)).alloc (.cells #[.int .i64 k, .int .i64 l] 51)).cell? ⟨w.heap.size, 1, none⟩ = some (.int .i64 j) := by go_simp
    have k2 : ((w.alloc (.cells #[.int .i64 i, .int .i64 j] 51)).alloc (.cells #[.int .i64 k, .int .i64 l] 51)).cell? ⟨w.heap.size + 1, 0, none⟩ = some (.int .i64 k) := by go_simp
    have k3 : ((w.alloc (.cells #[.int .i64 i, .int .i64 j] 51)).alloc (.cells #[.int .i64 k, .int .i64 l] 51)).cell? ⟨w.heap.size + 1, 1, none⟩ = some (.int .i64 l) := by go_simp
    have hgs := HX.out.1
    have HX0 := Lib.hid (IB.up _ _ HX.out hg)
    have HG0 := Lib.hid hg
    clear hg HX
    generalize (w.alloc (.cells #[.int .i64 i, .int .i64 j] 51)).alloc (.cells #[.int .i64 k, .int .i64 l] 51) = W at *
    obtain ⟨q, hq⟩ : ∃ q, q = w.heap.size := ⟨_, rfl⟩
    rw [← hq] at k0 k1 k2 k3 hgs ⊢
    clear hq
    refine (HA.out _ W HX0.out HL.out (rep_zero m)).mono ?_
    rintro e w1 ⟨rfl, hg1, ys, hyl, hy, hyz⟩
    have m0 := (hg1.cell _ 0 (cell_ltH k0) (by simp; omega)).trans k0
    have m1 := (hg1.cell _ 1 (cell_ltH k1) (by simp; omega)).trans k1
    have m2 := (hg1.cell _ 0 (cell_ltH k2) (by simp; omega)).trans k2
    have m3 := (hg1.cell _ 1 (cell_ltH k3) (by simp; omega)).trans k3
    have HY := Lib.hid hy; have HYL := Lib.hid hyl; have HYZ := Lib.hid hyz
    have HG1 := Lib.hid ((G1.of (g := g) HG0.out).trans hg1)
    clear hg1 hy hyl hyz k0 k1 k2 k3 HX0
    go_wp2_with fail
    refine (HB.out _ _ HY.out HYL.out (by rw [HYZ.out trivial]; exact rep_zero m)).mono ?_
    rintro e w2 ⟨rfl, hg2, zs, hzl, hz, hzz⟩
    go_wp2
    exact bodyPost_end (results_none rfl _ _ _) rfl ⟨rfl, HG1.out.trans hg2, zs, hzl, hz, fun _ => hzz trivial⟩
  · go_enter Tryd.func27, Tryd.ntmps27
    go_wp2_with fail
    have hg := ((Grow.refl w).alloc (.cells #[.int .i64 i, .int .i64 j] 51)).alloc (.cells #[.int .i64 k, .int .i64 l] 51)
    have k0 : ((w.alloc (.cells #[.int .i64 i, .int .i64 j] 51)).alloc (.cells #[.int .i64 k, .int .i64 l] 51)).cell? ⟨w.heap.size, 0, none⟩ = some (.int .i64 i) := by go_simp
    have k1 : ((w.alloc (.cells #[.int .i64 i, .int .i64 j] 51)).alloc (.cells #[.int .i64 k, .int .i64 l] 51)).cell? ⟨w.heap.size, 1, none⟩ = some (.int .i64 j) := by go_simp
    have k2 : ((w.alloc (.cells #[.int .i64 i, .int .i64 j] 51)).alloc (.cells #[.int .i64 k, .int .i64 l] 51)).cell? ⟨w.heap.size + 1, 0, none⟩ = some (.int .i64 k) := by go_simp
    have k3 : ((w.alloc (.cells #[.int .i64 i, .int .i64 j] 51)).alloc (.cells #[.int .i64 k, .int .i64 l] 51)).cell? ⟨w.heap.size + 1, 1, none⟩ = some (.int .i64 l) := by go_simp
    have hgs := HX.out.1
    have HX0 := Lib.hid (IB.up _ _ HX.out hg)
    have HG0 := Lib.hid hg
    clear hg HX
    generalize (w.alloc (.cells #[.int .i64 i, .int .i64 j] 51)).alloc (.cells #[.int .i64 k, .int .i64 l] 51) = W at *
    obtain ⟨q, hq⟩ : ∃ q, q = w.heap.size := ⟨_, rfl⟩
    rw [← hq] at k0 k1 k2 k3 hgs ⊢
    clear hq
    refine (HB.out _ W HX0.out HL.out (rep_zero m)).mono ?_
    rintro e w1 ⟨rfl, hg1, ys, hyl, hy, hyz⟩
    have m0 := (hg1.cell _ 0 (cell_ltH k0) (by simp; omega)).trans k0
    have m1 := (hg1.cell _ 1 (cell_ltH k1) (by simp; omega)).trans k1
    have m2 := (hg1.cell _ 0 (cell_ltH k2) (by simp; omega)).trans k2
    have m3 := (hg1.cell _ 1 (cell_ltH k3) (by simp; omega)).trans k3
    have HY := Lib.hid hy; have HYL := Lib.hid hyl; have HYZ := Lib.hid hyz
    have HG1 := Lib.hid ((G1.of (g := g) HG0.out).trans hg1)
    clear hg1 hy hyl hyz k0 k1 k2 k3 HX0
    go_wp2_with fail
    refine (HA.out _ _ HY.out HYL.out (by rw [HYZ.out trivial]; exact rep_zero m)).mono ?_
    rintro e w2 ⟨rfl, hg2, zs, hzl, hz, hzz⟩
    go_wp2
    exact bodyPost_end (results_none rfl _ _ _) rfl ⟨rfl, HG1.out.trans hg2, zs, hzl, hz, fun _ => hzz trivial⟩
set_option maxRecDepth 100000 in
set_option maxHeartbeats 4000000 in
theorem do2_flip_swap_any (i j k l : Int) (g m c : Nat) (rev : Bool) (xs : List Int) (w : World) (hx : IB g xs w) (hl : xs.length = m) (h1 : Pr m i j) (h2 : Pr m k l) :
    Calls Tryd.prog 28 #[.bool rev, .int .i64 1, .slice (some ⟨g, 0, none⟩) m c, .agg #[.int .i64 i, .int .i64 j], .agg #[.int .i64 k, .int .i64 l]] w (TuQ g m false w) := by
  have HX := Lib.hid hx; have HL := Lib.hid hl
  have HA := Lib.hid (fun (ys : List Int) w' (h : IB g ys w') (hl : ys.length = m)  => flip_any i j g m c ys w' h hl h1.a h1.b h1.c h1.d h1.e )
  have HB := Lib.hid (fun (ys : List Int) w' (h : IB g ys w') (hl : ys.length = m)  => swap_any k l g m c ys w' h hl h2.a h2.b h2.c h2.d h2.e )
  clear hx hl h1 h2
  cases rev
  · go_enter Tryd.func28, Tryd.ntmps28
    go_wp2_with fail
    have hg := ((Grow.refl w).alloc (.cells #[.int .i64 i, .int .i64 j] 51)).alloc (.cells #[.int .i64 k, .int .i64 l] 49)
    have k0 : ((w.alloc (.cells #[.int .i64 i, .int .i64 j] 51)).alloc (.cells #[.int .i64 k, .int .i64 l] 49)).cell? ⟨w.heap.size, 0, none⟩ = some (.int .i64 i) := by go_simp
    have k1 : ((w.alloc (.cells #[.int .i64 i, .int .i64 j] 51)).alloc (.cells #[.int .i64 k, .int .i64 l] 49)).cell? ⟨w.heap.size, 1, none⟩ = some (.int .i64 j) := by go_simp
    have k2 : ((w.alloc (.cells #[.int .i64 i, .int .i64 j] 51)).alloc (.cells #[.int .i64 k, .int .i64 l] 49)).cell? ⟨w.heap.size + 1, 0, none⟩ = some (.int .i64 k) := by go_simp
    have k3 : ((w.alloc (.cells #[.int .i64 i, .int .i64 j] 51)).alloc (.cells #[.int .i64 k, .int .i64 l] 49)).cell? ⟨w.heap.size + 1, 1, none⟩ = some (.int .i64 l) := by go_simp
    have hgs := HX.out.1
    have HX0 := Lib.hid (IB.up _ _ HX.out hg)
    have HG0 := Lib.hid hg
    clear hg HX
    generalize (w.alloc (.cells #[.int .i64 i, .int .i64 j] 51)).alloc (.cells #[.int .i64 k, .int .i64 l] 49) = W at *
    obtain ⟨q, hq⟩ : ∃ q, q = w.heap.size := ⟨_, rfl⟩
    rw [← hq] at k0 k1 k2 k3 hgs ⊢
    clear hq
    refine (HA.out _ W HX0.out HL.out ).mono ?_
    rintro e w1 ⟨rfl, hg1, ys, hyl, hy, hyz⟩
    have m0 := (hg1.cell _ 0 (cell_ltH k0) (by simp; omega)).trans k0
    have m1 := (hg1.cell _ 1 (cell_ltH k1) (by simp; omega)).trans k1
    have m2 := (hg1.cell _ 0 (cell_ltH k2) (by simp; omega)).trans k2
    have m3 := (hg1.cell _ 1 (cell_ltH k3) (by simp; omega)).trans k3
    have HY := Lib.hid hy; have HYL := Lib.hid hyl; have HYZ := Lib.hid hyz
    have HG1 := Lib.hid ((G1.of (g := g) HG0.out).trans hg1)
    clear hg1 hy hyl hyz k0 k1 k2 k3 HX0
    go_wp2_with fail
    refine (HB.out _ _ HY.out HYL.out ).mono ?_
    rintro e w2 ⟨rfl, hg2, zs, hzl, hz, hzz⟩
    go_wp2
    exact bodyPost_end (results_none rfl _ _ _) rfl ⟨rfl, HG1.out.trans hg2, zs, hzl, hz, fun h => by cases h⟩
  · go_enter Tryd.func28, Tryd.ntmps28
    go_wp2_with fail
    have hg := ((Grow.refl w).alloc (.cells #[.int .i64 i, .int .i64 j] 51)).alloc (.cells #[.int .i64 k, .int .i64 l] 49)
    have k0 : ((w.alloc (.cells #[.int .i64 i, .int .i64 j] 51)).alloc (.cells #[.int .i64 k, .int .i64 l] 49)).cell? ⟨w.heap.size, 0, none⟩ = some (.int .i64 i) := by go_simp
    have k1 : ((w.alloc (.cells #[.int .i64 i, .int .i64 j] 51)).alloc (.cells #[.int .i64 k, .int .i64 l] 49)).cell? ⟨w.heap.size, 1, none⟩ = some (.int .i64 j) := by go_simp
    have k2 : ((w.alloc (.cells #[.int .i64 i, .int .i64 j] 51)).alloc (.cells #[.int .i64 k, .int .i64 l] 49)).cell? ⟨w.heap.size + 1, 0, none⟩ = some (.int .i64 k) := by go_simp
    have k3 : ((w.alloc (.cells #[.int .i64 i, .int .i64 j] 51)).alloc (.cells #[.int .i64 k, .int .i64 l] 49)).cell? ⟨w.heap.size + 1, 1, none⟩ = some (.int .i64 l) := by go_simp
    have hgs := HX.out.1
    have HX0 := Lib.hid (IB.up _ _ HX.out hg)
    have HG0 := Lib.hid hg
    clear hg HX
    generalize (w.alloc (.cells #[.int .i64 i, .int .i64 j] 51)).alloc (.cells #[.int .i64 k, .int .i64 l] 49) = W at *
    obtain ⟨q, hq⟩ : ∃ q, q = w.heap.size := ⟨_, rfl⟩
    rw [← hq] at k0 k1 k2 k3 hgs ⊢
    clear hq
    refine (HB.out _ W HX0.out HL.out ).mono ?_
    rintro e w1 ⟨rfl, hg1, ys, hyl, hy, hyz⟩
    have m0 := (hg1.cell _ 0 (cell_ltH k0) (by simp; omega)).trans k0
    have m1 := (hg1.cell _ 1 (cell_ltH k1) (by simp; omega)).trans k1
    have m2 := (hg1.cell _ 0 (cell_ltH k2) (by simp; omega)).trans k2
    have m3 := (hg1.cell _ 1 (cell_ltH k3) (by simp; omega)).trans k3
    have HY := Lib.hid hy; have HYL := Lib.hid hyl; have HYZ := Lib.hid hyz
    have HG1 := Lib.hid ((G1.of (g := g) HG0.out).trans hg1)
    clear hg1 hy hyl hyz k0 k1 k2 k3 HX0
    go_wp2_with fail
    refine (HA.out _ _ HY.out HYL.out ).mono ?_
    rintro e w2 ⟨rfl, hg2, zs, hzl, hz, hzz⟩
    go_wp2
    exact bodyPost_end (results_none rfl _ _ _) rfl ⟨rfl, HG1.out.trans hg2, zs, hzl, hz, fun h => by cases h⟩
set_option maxRecDepth 100000 in
set_option maxHeartbeats 4000000 in
theorem do2_flip_swap_zero (i j k l : Int) (g m c : Nat) (rev : Bool)  (w : World) (hx : IB g (List.replicate m (0 : Int)) w) (hl : (List.replicate m (0 : Int)).length = m) (h1 : Pr m i j) (h2 : Pr m k l) :
    Calls Tryd.prog 28 #[.bool rev, .int .i64 0, .slice (some ⟨g, 0, none⟩) m c, .agg #[.int .i64 i, .int .i64 j], .agg #[.int .i64 k, .int .i64 l]] w (TuQ g m true w) := by
  have HX := Lib.hid hx; have HL := Lib.hid hl
  have HA := Lib.hid (fun (ys : List Int) w' (h : IB g ys w') (hl : ys.length = m) (hz : ∀ x ∈ ys, x = 0) => flip_zero i j g m c ys w' h hl h1.a h1.b h1.c h1.d h1.e hz)
  have HB := Lib.hid (fun (ys : List Int) w' (h : IB g ys w') (hl : ys.length = m) (hz : ∀ x ∈ ys, x = 0) => swap_zero k l g m c ys w' h hl h2.a h2.b h2.c h2.d h2.e hz)
  clear hx hl h1 h2
  cases rev
  · go_enter Tryd.func28, Tryd.ntmps28
    go_wp2_with fail
    have hg := ((Grow.refl w).alloc (.cells #[.int .i64 i, .int .i64 j] 51)).alloc (.cells #[.int .i64 k, .int .i64 l] 49)
    have k0 : ((w.alloc (.cells #[.int .i64 i, .int .i64 j] 51)).alloc (.cells #[.int .i64 k, .int .i64 l] 49)).cell? ⟨w.heap.size, 0, none⟩ = some (.int .i64 i) := by go_simp
    have k1 : ((w.alloc (.cells #[.int .i64 i, .int .i64 j] 51)).alloc (.cells #[.int .i64 k, .int .i64 l] 49)).cell? ⟨w.heap.size, 1, none⟩ = some (.int .i64 j) := by go_simp
    have k2 : ((w.alloc (.cells #[.int .i64 i, .int .i64 j] 51)).alloc (.cells #[.int .i64 k, .int .i64 l] 49)).cell? ⟨w.heap.size + 1, 0, none⟩ = some (.int .i64 k) := by go_simp
    have k3 : ((w.alloc (.cells #[.int .i64 i, .int .i64 j] 51)).alloc (.cells #[.int .i64 k, .int .i64 l] 49)).cell? ⟨w.heap.size + 1, 1, none⟩ = some (.int .i64 l) := by go_simp
    have hgs := HX.out.1
    have HX0 := Lib.hid (IB.up _ _ HX.out hg)
    have HG0 := Lib.hid hg
    clear hg HX
    generalize (w.alloc (.cells #[.int .i64 i, .int .i64 j] 51)).alloc (.cells #[.int .i64 k, .int .i64 l] 49) = W at *
    obtain ⟨q, hq⟩ : ∃ q, q = w.heap.size := ⟨_, rfl⟩
    rw [← hq] at k0 k1 k2 k3 hgs ⊢
    clear hq
    refine (HA.out _ W HX0.out HL.out (rep_zero m)).mono ?_
    rintro e w1 ⟨rfl, hg1, ys, hyl, hy, hyz⟩
    have m0 := (hg1.cell _ 0 (cell_ltH k0) (by simp; omega)).trans k0
    have m1 := (hg1.cell _ 1 (cell_ltH k1) (by simp; omega)).trans k1
    have m2 := (hg1.cell _ 0 (cell_ltH k2) (by simp; omega)).trans k2
    have m3 := (hg1.cell _ 1 (cell_ltH k3) (by simp; omega)).trans k3
    have HY := Lib.hid hy; have HYL := Lib.hid hyl; have HYZ := Lib.hid hyz
    have HG1 := Lib.hid ((G1.of (g := g) HG0.out).trans hg1)
    clear hg1 hy hyl hyz k0 k1 k2 k3 HX0
    go_wp2_with fail
    refine (HB.out _ _ HY.out HYL.out (by rw [HYZ.out trivial]; exact rep_zero m)).mono ?_
    rintro e w2 ⟨rfl, hg2, zs, hzl, hz, hzz⟩
    go_wp2
    exact bodyPost_end (results_none rfl _ _ _) rfl ⟨rfl, HG1.out.trans hg2, zs, hzl, hz, fun _ => hzz trivial⟩
  · go_enter Tryd.func28, Tryd.ntmps28
    go_wp2_with fail
    have hg := ((Grow.refl w).alloc (.cells #[.int .i64 i, .int .i64 j] 51)).alloc (.cells #[.int .i64 k, .int .i64 l] 49)
    have k0 : ((w.alloc (.cells #[.int .i64 i, .int .i64 j] 51)).alloc (.cells #[.int .i64 k, .int .i64 l] 49)).cell? ⟨w.heap.size, 0, none⟩ = some (.int .i64 i) := by go_simp
    have k1 : ((w.alloc (.cells #[.int .i64 i, .int .i64 j] 51)).alloc (.cells #[.int .i64 k, .int .i64 l] 49)).cell? ⟨w.heap.size, 1, none⟩ = some (.int .i64 j) := by go_simp
    have k2 : ((w.alloc (.cells #[.int .i64 i, .int .i64 j] 51)).alloc (.cells #[.int .i64 k, .int .i64 l] 49)).cell? ⟨w.heap.size + 1, 0, none⟩ = some (.int .i64 k) := by go_simp
    have k3 : ((w.alloc (.cells #[.int .i64 i, .int .i64 j] 51)).alloc (.cells #[.int .i64 k, .int .i64 l] 49)).cell? ⟨w.heap.size + 1, 1, none⟩ = some (.int .i64 l) := by go_simp
    have hgs := HX.out.1
    have HX0 := Lib.hid (IB.up _ _ HX.out hg)
    have HG0 := Lib.hid hg
    clear hg HX
    generalize (w.alloc (.cells #[.int .i64 i, .int .i64 j] 51)).alloc (.cells #[.int .i64 k, .int .i64 l] 49) = W at *
    obtain ⟨q, hq⟩ : ∃ q, q = w.heap.size := ⟨_, rfl⟩
    rw [← hq] at k0 k1 k2 k3 hgs ⊢
    clear hq
    refine (HB.out _ W HX0.out HL.out (rep_zero m)).mono ?_
    rintro e w1 ⟨rfl, hg1, ys, hyl, hy, hyz⟩
    have m0 := (hg1.cell _ 0 (cell_ltH k0) (by simp; omega)).trans k0
    have m1 := (hg1.cell _ 1 (cell_ltH k1) (by simp; omega)).trans k1
    have m2 := (hg1.cell _ 0 (cell_ltH k2) (by simp; omega)).trans k2
    have m3 := (hg1.cell _ 1 (cell_ltH k3) (by simp; omega)).trans k3
    have HY := Lib.hid hy; have HYL := Lib.hid hyl; have HYZ := Lib.hid hyz
    have HG1 := Lib.hid ((G1.of (g := g) HG0.out).trans hg1)
    clear hg1 hy hyl hyz k0 k1 k2 k3 HX0
    go_wp2_with fail
    refine (HA.out _ _ HY.out HYL.out (by rw [HYZ.out trivial]; exact rep_zero m)).mono ?_
    rintro e w2 ⟨rfl, hg2, zs, hzl, hz, hzz⟩
    go_wp2
    exact bodyPost_end (results_none rfl _ _ _) rfl ⟨rfl, HG1.out.trans hg2, zs, hzl, hz, fun _ => hzz trivial⟩
theorem TuQ.id {g m : Nat} {z : Bool} {xs : List Int} {w w' : World} (hg : Grow w w') (h : IB g xs w) (hl : xs.length = m) (hz : z = true → xs = List.replicate m 0) : TuQ g m z w (.returned (.tuple #[])) w' := ⟨rfl, G1.of hg, xs, hl, IB.up _ _ h hg, hz⟩
theorem TuQ.pre {g m : Nat} {z : Bool} {w w1 w2 : World} {e : Ending} (hg : Grow w w1) (h : TuQ g m z w1 e w2) : TuQ g m z w e w2 := ⟨h.1, (G1.of hg).trans h.2.1, h.2.2⟩
set_option maxRecDepth 100000 in
set_option maxHeartbeats 8000000 in
theorem rot2_any (o d : Int) (g c : Nat)  (xs : List Int) (w : World) (hx : IB g xs w) (hl : xs.length = 2) (hd : 0 ≤ d ∧ d < 4) :
    Calls Tryd.prog 20 #[.agg #[.int .i64 o], .int .i64 1, .slice (some ⟨g, 0, none⟩) 2 c, .int .i64 d] w (TuQ g 2 false w) := by
  have hgr := (Grow.refl w).alloc (.cells #[.int .i64 o] 31)
  have HX := Lib.hid hx; have HL := Lib.hid hl
  have HX1 := Lib.hid (IB.up _ _ hx hgr)
  have HG := Lib.hid hgr
  clear hx hl hgr
  rcases (show d = 0 ∨ d = 1 ∨ d = 2 ∨ d = 3 by omega) with rfl | rfl | rfl | rfl
  all_goals
    go_enter Tryd.func20, Tryd.ntmps20
    go_wp2_with (first
      | (go_at_call 23; refine (swap_any _ _ g 2 c xs _ HX1.out HL.out (by omega) (by omega) (by omega) (by omega) (by omega)).mono ?_; rintro e w2 h2; obtain rfl := h2.1; have H2 := Lib.hid h2; clear h2)
      | (go_at_call 24; refine (flip_any _ _ g 2 c xs _ HX1.out HL.out (by omega) (by omega) (by omega) (by omega) (by omega)).mono ?_; rintro e w2 h2; obtain rfl := h2.1; have H2 := Lib.hid h2; clear h2)
      | (go_at_call 26; refine (invert_any _ _ g 2 c xs _ HX1.out HL.out (by omega) (by omega) (by omega) (by omega) (by omega)).mono ?_; rintro e w2 h2; obtain rfl := h2.1; have H2 := Lib.hid h2; clear h2))
    first
      | exact bodyPost_end (results_none rfl _ _ _) rfl (TuQ.pre HG.out H2.out)
      | exact bodyPost_end (results_none rfl _ _ _) rfl (TuQ.id HG.out HX.out HL.out (fun h => by cases h))
set_option maxRecDepth 100000 in
set_option maxHeartbeats 8000000 in
theorem rot2_zero (o d : Int) (g c : Nat)   (w : World) (hx : IB g (List.replicate 2 (0 : Int)) w) (hl : (List.replicate 2 (0 : Int)).length = 2) (hd : 0 ≤ d ∧ d < 4) :
    Calls Tryd.prog 20 #[.agg #[.int .i64 o], .int .i64 0, .slice (some ⟨g, 0, none⟩) 2 c, .int .i64 d] w (TuQ g 2 true w) := by
  have hgr := (Grow.refl w).alloc (.cells #[.int .i64 o] 31)
  have HX := Lib.hid hx; have HL := Lib.hid hl
  have HX1 := Lib.hid (IB.up _ _ hx hgr)
  have HG := Lib.hid hgr
  clear hx hl hgr
  rcases (show d = 0 ∨ d = 1 ∨ d = 2 ∨ d = 3 by omega) with rfl | rfl | rfl | rfl
  all_goals
    go_enter Tryd.func20, Tryd.ntmps20
    go_wp2_with (first
      | (go_at_call 23; refine (swap_zero _ _ g 2 c (List.replicate 2 (0 : Int)) _ HX1.out HL.out (by omega) (by omega) (by omega) (by omega) (by omega) (rep_zero _)).mono ?_; rintro e w2 h2; obtain rfl := h2.1; have H2 := Lib.hid h2; clear h2)
      | (go_at_call 24; refine (flip_zero _ _ g 2 c (List.replicate 2 (0 : Int)) _ HX1.out HL.out (by omega) (by omega) (by omega) (by omega) (by omega) (rep_zero _)).mono ?_; rintro e w2 h2; obtain rfl := h2.1; have H2 := Lib.hid h2; clear h2)
      | (go_at_call 26; refine (invert_zero _ _ g 2 c (List.replicate 2 (0 : Int)) _ HX1.out HL.out (by omega) (by omega) (by omega) (by omega) (by omega) (rep_zero _)).mono ?_; rintro e w2 h2; obtain rfl := h2.1; have H2 := Lib.hid h2; clear h2))
    first
      | exact bodyPost_end (results_none rfl _ _ _) rfl (TuQ.pre HG.out H2.out)
      | exact bodyPost_end (results_none rfl _ _ _) rfl (TuQ.id HG.out HX.out HL.out (fun _ => rfl))
set_option maxRecDepth 100000 in
set_option maxHeartbeats 8000000 in
theorem rot3_any (o d : Int) (g c : Nat) (rev : Bool) (xs : List Int) (w : World) (hx : IB g xs w) (hl : xs.length = 3) (hd : 0 ≤ d ∧ d < 8) :
    Calls Tryd.prog 21 #[.agg #[.int .i64 o], .bool rev, .int .i64 1, .slice (some ⟨g, 0, none⟩) 3 c, .int .i64 d] w (TuQ g 3 false w) := by
  have hgr := (Grow.refl w).alloc (.cells #[.int .i64 o] 37)
  have HX := Lib.hid hx; have HL := Lib.hid hl
  have HX1 := Lib.hid (IB.up _ _ hx hgr)
  have HG := Lib.hid hgr
  clear hx hl hgr
  rcases (show d = 0 ∨ d = 1 ∨ d = 2 ∨ d = 3 ∨ d = 4 ∨ d = 5 ∨ d = 6 ∨ d = 7 by omega) with rfl | rfl | rfl | rfl | rfl | rfl | rfl | rfl
  all_goals
    go_enter Tryd.func21, Tryd.ntmps21
    go_wp2_with (first
      | (go_at_call 25; refine (do2_swap_swap_any _ _ _ _ g 3 c _ xs _ HX1.out HL.out ⟨by omega, by omega, by omega, by omega, by omega⟩ ⟨by omega, by omega, by omega, by omega, by omega⟩).mono ?_; rintro e w2 h2; obtain rfl := h2.1; have H2 := Lib.hid h2; clear h2)
      | (go_at_call 27; refine (do2_flip_flip_any _ _ _ _ g 3 c _ xs _ HX1.out HL.out ⟨by omega, by omega, by omega, by omega, by omega⟩ ⟨by omega, by omega, by omega, by omega, by omega⟩).mono ?_; rintro e w2 h2; obtain rfl := h2.1; have H2 := Lib.hid h2; clear h2)
      | (go_at_call 28; refine (do2_flip_swap_any _ _ _ _ g 3 c _ xs _ HX1.out HL.out ⟨by omega, by omega, by omega, by omega, by omega⟩ ⟨by omega, by omega, by omega, by omega, by omega⟩).mono ?_; rintro e w2 h2; obtain rfl := h2.1; have H2 := Lib.hid h2; clear h2)
      | (go_at_call 23; refine (swap_any _ _ g 3 c xs _ HX1.out HL.out (by omega) (by omega) (by omega) (by omega) (by omega)).mono ?_; rintro e w2 h2; obtain rfl := h2.1; have H2 := Lib.hid h2; clear h2)
      | (go_at_call 24; refine (flip_any _ _ g 3 c xs _ HX1.out HL.out (by omega) (by omega) (by omega) (by omega) (by omega)).mono ?_; rintro e w2 h2; obtain rfl := h2.1; have H2 := Lib.hid h2; clear h2)
      | (go_at_call 26; refine (invert_any _ _ g 3 c xs _ HX1.out HL.out (by omega) (by omega) (by omega) (by omega) (by omega)).mono ?_; rintro e w2 h2; obtain rfl := h2.1; have H2 := Lib.hid h2; clear h2))
    first
      | exact bodyPost_end (results_none rfl _ _ _) rfl (TuQ.pre HG.out H2.out)
      | exact bodyPost_end (results_none rfl _ _ _) rfl (TuQ.id HG.out HX.out HL.out (fun h => by cases h))
set_option maxRecDepth 100000 in
set_option maxHeartbeats 8000000 in
theorem rot3_zero (o d : Int) (g c : Nat) (rev : Bool)  (w : World) (hx : IB g (List.replicate 3 (0 : Int)) w) (hl : (List.replicate 3 (0 : Int)).length = 3) (hd : 0 ≤ d ∧ d < 8) :
    Calls Tryd.prog 21 #[.agg #[.int .i64 o], .bool rev, .int .i64 0, .slice (some ⟨g, 0, none⟩) 3 c, .int .i64 d] w (TuQ g 3 true w) := by
  have hgr := (Grow.refl w).alloc (.cells #[.int .i64 o] 37)
  have HX := Lib.hid hx; have HL := Lib.hid hl
  have HX1 := Lib.hid (IB.up _ _ hx hgr)
  have HG := Lib.hid hgr
  clear hx hl hgr
  rcases (show d = 0 ∨ d = 1 ∨ d = 2 ∨ d = 3 ∨ d = 4 ∨ d = 5 ∨ d = 6 ∨ d = 7 by omega) with rfl | rfl | rfl | rfl | rfl | rfl | rfl | rfl
  all_goals
    go_enter Tryd.func21, Tryd.ntmps21
    go_wp2_with (first
      | (go_at_call 25; refine (do2_swap_swap_zero _ _ _ _ g 3 c _  _ HX1.out HL.out ⟨by omega, by omega, by omega, by omega, by omega⟩ ⟨by omega, by omega, by omega, by omega, by omega⟩).mono ?_; rintro e w2 h2; obtain rfl := h2.1; have H2 := Lib.hid h2; clear h2)
      | (go_at_call 27; refine (do2_flip_flip_zero _ _ _ _ g 3 c _  _ HX1.out HL.out ⟨by omega, by omega, by omega, by omega, by omega⟩ ⟨by omega, by omega, by omega, by omega, by omega⟩).mono ?_; rintro e w2 h2; obtain rfl := h2.1; have H2 := Lib.hid h2; clear h2)
      | (go_at_call 28; refine (do2_flip_swap_zero _ _ _ _ g 3 c _  _ HX1.out HL.out ⟨by omega, by omega, by omega, by omega, by omega⟩ ⟨by omega, by omega, by omega, by omega, by omega⟩).mono ?_; rintro e w2 h2; obtain rfl := h2.1; have H2 := Lib.hid h2; clear h2)
      | (go_at_call 23; refine (swap_zero _ _ g 3 c (List.replicate 3 (0 : Int)) _ HX1.out HL.out (by omega) (by omega) (by omega) (by omega) (by omega) (rep_zero _)).mono ?_; rintro e w2 h2; obtain rfl := h2.1; have H2 := Lib.hid h2; clear h2)
      | (go_at_call 24; refine (flip_zero _ _ g 3 c (List.replicate 3 (0 : Int)) _ HX1.out HL.out (by omega) (by omega) (by omega) (by omega) (by omega) (rep_zero _)).mono ?_; rintro e w2 h2; obtain rfl := h2.1; have H2 := Lib.hid h2; clear h2)
      | (go_at_call 26; refine (invert_zero _ _ g 3 c (List.replicate 3 (0 : Int)) _ HX1.out HL.out (by omega) (by omega) (by omega) (by omega) (by omega) (rep_zero _)).mono ?_; rintro e w2 h2; obtain rfl := h2.1; have H2 := Lib.hid h2; clear h2))
    first
      | exact bodyPost_end (results_none rfl _ _ _) rfl (TuQ.pre HG.out H2.out)
      | exact bodyPost_end (results_none rfl _ _ _) rfl (TuQ.id HG.out HX.out HL.out (fun _ => rfl))
set_option maxRecDepth 100000 in
set_option maxHeartbeats 8000000 in
theorem rot4_any (o d : Int) (g c : Nat) (rev : Bool) (xs : List Int) (w : World) (hx : IB g xs w) (hl : xs.length = 4) (hd : 0 ≤ d ∧ d < 16) :
    Calls Tryd.prog 22 #[.agg #[.int .i64 o], .bool rev, .int .i64 1, .slice (some ⟨g, 0, none⟩) 4 c, .int .i64 d] w (TuQ g 4 false w) := by
  have hgr := (Grow.refl w).alloc (.cells #[.int .i64 o] 40)
  have HX := Lib.hid hx; have HL := Lib.hid hl
  have HX1 := Lib.hid (IB.up _ _ hx hgr)
  have HG := Lib.hid hgr
  clear hx hl hgr
  rcases (show d = 0 ∨ d = 1 ∨ d = 2 ∨ d = 3 ∨ d = 4 ∨ d = 5 ∨ d = 6 ∨ d = 7 ∨ d = 8 ∨ d = 9 ∨ d = 10 ∨ d = 11 ∨ d = 12 ∨ d = 13 ∨ d = 14 ∨ d = 15 by omega) with rfl | rfl | rfl | rfl | rfl | rfl | rfl | rfl | rfl | rfl | rfl | rfl | rfl | rfl | rfl | rfl
  all_goals
    go_enter Tryd.func22, Tryd.ntmps22
    go_wp2_with (first
      | (go_at_call 25; refine (do2_swap_swap_any _ _ _ _ g 4 c _ xs _ HX1.out HL.out ⟨by omega, by omega, by omega, by omega, by omega⟩ ⟨by omega, by omega, by omega, by omega, by omega⟩).mono ?_; rintro e w2 h2; obtain rfl := h2.1; have H2 := Lib.hid h2; clear h2)
      | (go_at_call 27; refine (do2_flip_flip_any _ _ _ _ g 4 c _ xs _ HX1.out HL.out ⟨by omega, by omega, by omega, by omega, by omega⟩ ⟨by omega, by omega, by omega, by omega, by omega⟩).mono ?_; rintro e w2 h2; obtain rfl := h2.1; have H2 := Lib.hid h2; clear h2)
      | (go_at_call 28; refine (do2_flip_swap_any _ _ _ _ g 4 c _ xs _ HX1.out HL.out ⟨by omega, by omega, by omega, by omega, by omega⟩ ⟨by omega, by omega, by omega, by omega, by omega⟩).mono ?_; rintro e w2 h2; obtain rfl := h2.1; have H2 := Lib.hid h2; clear h2)
      | (go_at_call 23; refine (swap_any _ _ g 4 c xs _ HX1.out HL.out (by omega) (by omega) (by omega) (by omega) (by omega)).mono ?_; rintro e w2 h2; obtain rfl := h2.1; have H2 := Lib.hid h2; clear h2)
      | (go_at_call 24; refine (flip_any _ _ g 4 c xs _ HX1.out HL.out (by omega) (by omega) (by omega) (by omega) (by omega)).mono ?_; rintro e w2 h2; obtain rfl := h2.1; have H2 := Lib.hid h2; clear h2)
      | (go_at_call 26; refine (invert_any _ _ g 4 c xs _ HX1.out HL.out (by omega) (by omega) (by omega) (by omega) (by omega)).mono ?_; rintro e w2 h2; obtain rfl := h2.1; have H2 := Lib.hid h2; clear h2))
    first
      | exact bodyPost_end (results_none rfl _ _ _) rfl (TuQ.pre HG.out H2.out)
      | exact bodyPost_end (results_none rfl _ _ _) rfl (TuQ.id HG.out HX.out HL.out (fun h => by cases h))
set_option maxRecDepth 100000 in
set_option maxHeartbeats 8000000 in
theorem rot4_zero (o d : Int) (g c : Nat) (rev : Bool)  (w : World) (hx : IB g (List.replicate 4 (0 : Int)) w) (hl : (List.replicate 4 (0 : Int)).length = 4) (hd : 0 ≤ d ∧ d < 16) :
    Calls Tryd.prog 22 #[.agg #[.int .i64 o], .bool rev, .int .i64 0, .slice (some ⟨g, 0, none⟩) 4 c, .int .i64 d] w (TuQ g 4 true w) := by
  have hgr := (Grow.refl w).alloc (.cells #[.int .i64 o] 40)
  have HX := Lib.hid hx; have HL := Lib.hid hl
  have HX1 := Lib.hid (IB.up _ _ hx hgr)
  have HG := Lib.hid hgr
  clear hx hl hgr
  rcases (show d = 0 ∨ d = 1 ∨ d = 2 ∨ d = 3 ∨ d = 4 ∨ d = 5 ∨ d = 6 ∨ d = 7 ∨ d = 8 ∨ d = 9 ∨ d = 10 ∨ d = 11 ∨ d = 12 ∨ d = 13 ∨ d = 14 ∨ d = 15 by omega) with rfl | rfl | rfl | rfl | rfl | rfl | rfl | rfl | rfl | rfl | rfl | rfl | rfl | rfl | rfl | rfl
  all_goals
    go_enter Tryd.func22, Tryd.ntmps22
    go_wp2_with (first
      | (go_at_call 25; refine (do2_swap_swap_zero _ _ _ _ g 4 c _  _ HX1.out HL.out ⟨by omega, by omega, by omega, by omega, by omega⟩ ⟨by omega, by omega, by omega, by omega, by omega⟩).mono ?_; rintro e w2 h2; obtain rfl := h2.1; have H2 := Lib.hid h2; clear h2)
      | (go_at_call 27; refine (do2_flip_flip_zero _ _ _ _ g 4 c _  _ HX1.out HL.out ⟨by omega, by omega, by omega, by omega, by omega⟩ ⟨by omega, by omega, by omega, by omega, by omega⟩).mono ?_; rintro e w2 h2; obtain rfl := h2.1; have H2 := Lib.hid h2; clear h2)
      | (go_at_call 28; refine (do2_flip_swap_zero _ _ _ _ g 4 c _  _ HX1.out HL.out ⟨by omega, by omega, by omega, by omega, by omega⟩ ⟨by omega, by omega, by omega, by omega, by omega⟩).mono ?_; rintro e w2 h2; obtain rfl := h2.1; have H2 := Lib.hid h2; clear h2)
      | (go_at_call 23; refine (swap_zero _ _ g 4 c (List.replicate 4 (0 : Int)) _ HX1.out HL.out (by omega) (by omega) (by omega) (by omega) (by omega) (rep_zero _)).mono ?_; rintro e w2 h2; obtain rfl := h2.1; have H2 := Lib.hid h2; clear h2)
      | (go_at_call 24; refine (flip_zero _ _ g 4 c (List.replicate 4 (0 : Int)) _ HX1.out HL.out (by omega) (by omega) (by omega) (by omega) (by omega) (rep_zero _)).mono ?_; rintro e w2 h2; obtain rfl := h2.1; have H2 := Lib.hid h2; clear h2)
      | (go_at_call 26; refine (invert_zero _ _ g 4 c (List.replicate 4 (0 : Int)) _ HX1.out HL.out (by omega) (by omega) (by omega) (by omega) (by omega) (rep_zero _)).mono ?_; rintro e w2 h2; obtain rfl := h2.1; have H2 := Lib.hid h2; clear h2))
    first
      | exact bodyPost_end (results_none rfl _ _ _) rfl (TuQ.pre HG.out H2.out)
      | exact bodyPost_end (results_none rfl _ _ _) rfl (TuQ.id HG.out HX.out HL.out (fun _ => rfl))
end Go.Proofs.YtkcpjndelcfmhaaDoor
