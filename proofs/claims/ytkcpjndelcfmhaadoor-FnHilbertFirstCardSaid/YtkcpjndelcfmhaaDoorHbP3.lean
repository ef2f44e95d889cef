import Derived.Test.YtkcpjndelcfmhaaDoorHbC
import Derived.Deep.OwnRows
namespace Go.Proofs.YtkcpjndelcfmhaaDoor
open Go.ChangeShapes Go.WideShapes Go.ChangeAt Go.RowKit Go.GrowR
set_option linter.unusedVariables false
set_option linter.unusedSimpArgs false
set_option maxRecDepth 100000 in
set_option maxHeartbeats 16000000 in
theorem pos3_0 (g c : Nat) (w : World) (hx : IB g (gC 3 0) w) : Calls Tryd.prog 18 #[.agg #[.int .i64 1], .slice (some ⟨g, 0, none⟩) 3 c] w fun e w' => e = .returned (.int .i64 0) ∧ G1 g w w' := by
  have hx' : IB g [(0 : Int), (0 : Int), (0 : Int)] w := IB.cast hx (show gC 3 0 = [(0 : Int), (0 : Int), (0 : Int)] by kernel_rfl)
  have HX := Lib.hid (IB.up _ _ hx' ((Grow.refl w).alloc (.cells #[.int .i64 1] 37)))
  have HG := Lib.hid ((Grow.refl w).alloc (.cells #[.int .i64 1] 37))
  have kn : (w.alloc (.cells #[.int .i64 1] 37)).cell? ⟨w.heap.size, 0, none⟩ = some (.int .i64 1) := by go_simp
  have hgl := hx.1
  clear hx hx'
  go_enter Tryd.func18, Tryd.ntmps18
  go_wp2
  generalize w.alloc (.cells #[.int .i64 1] 37) = W0 at *
  go_loopw [5, 6] (fun d n wr => (d = .int .i64 0 ∧ n = .int .i64 0 ∧ wr = W0) ∨ (d = .int .i64 0 ∧ n = .int .i64 (-1) ∧ G1 g w wr)) (fun _ n _ => (1 + intOf n).toNat)
  case atStart => exact .inl ⟨rfl, rfl, rfl⟩
  case round =>
    rcases hrel with ⟨rfl, rfl, rfl⟩ | ⟨rfl, rfl, hg⟩
    case inr =>
      have HGG := Lib.hid hg
      clear hg kn
      go_wp2
      go_ret
      exact ⟨rfl, HGG.out⟩
    case inl =>
      obtain ⟨c0, -⟩ := HX.out.2 0 0 rfl
      obtain ⟨c1, -⟩ := HX.out.2 1 0 rfl
      obtain ⟨c2, -⟩ := HX.out.2 2 0 rfl
      go_wp2_with fail
      refine (rot3_any _ _ _ _ _ [(0 : Int), (0 : Int), (0 : Int)] _ HX.out (by simp) (by omega)).mono ?_
      rintro e w2 ⟨rfl, hg2, -⟩
      have HG2 := Lib.hid ((G1.of (g := g) HG.out).trans hg2)
      have k2 := (hg2.cell _ 0 (cell_ltH kn) (by simp; omega)).trans kn
      clear hg2
      go_wp2
      go_roundw
      case rel => exact .inr ⟨rfl, rfl, HG2.out⟩
      case measure => simp [intOf]
set_option maxRecDepth 100000 in
set_option maxHeartbeats 16000000 in
theorem pos3_1 (g c : Nat) (w : World) (hx : IB g (gC 3 1) w) : Calls Tryd.prog 18 #[.agg #[.int .i64 1], .slice (some ⟨g, 0, none⟩) 3 c] w fun e w' => e = .returned (.int .i64 1) ∧ G1 g w w' := by
  have hx' : IB g [(1 : Int), (0 : Int), (0 : Int)] w := IB.cast hx (show gC 3 1 = [(1 : Int), (0 : Int), (0 : Int)] by kernel_rfl)
  have HX := Lib.hid (IB.up _ _ hx' ((Grow.refl w).alloc (.cells #[.int .i64 1] 37)))
  have HG := Lib.hid ((Grow.refl w).alloc (.cells #[.int .i64 1] 37))
  have kn : (w.alloc (.cells #[.int .i64 1] 37)).cell? ⟨w.heap.size, 0, none⟩ = some (.int .i64 1) := by go_simp
  have hgl := hx.1
  clear hx hx'
  go_enter Tryd.func18, Tryd.ntmps18
  go_wp2
  generalize w.alloc (.cells #[.int .i64 1] 37) = W0 at *
  go_loopw [5, 6] (fun d n wr => (d = .int .i64 0 ∧ n = .int .i64 0 ∧ wr = W0) ∨ (d = .int .i64 1 ∧ n = .int .i64 (-1) ∧ G1 g w wr)) (fun _ n _ => (1 + intOf n).toNat)
  case atStart => exact .inl ⟨rfl, rfl, rfl⟩
  case round =>
    rcases hrel with ⟨rfl, rfl, rfl⟩ | ⟨rfl, rfl, hg⟩
    case inr =>
      have HGG := Lib.hid hg
      clear hg kn
      go_wp2
      go_ret
      exact ⟨rfl, HGG.out⟩
    case inl =>
      obtain ⟨c0, -⟩ := HX.out.2 0 1 rfl
      obtain ⟨c1, -⟩ := HX.out.2 1 0 rfl
      obtain ⟨c2, -⟩ := HX.out.2 2 0 rfl
      go_wp2_with fail
      refine (rot3_any _ _ _ _ _ [(1 : Int), (0 : Int), (0 : Int)] _ HX.out (by simp) (by omega)).mono ?_
      rintro e w2 ⟨rfl, hg2, -⟩
      have HG2 := Lib.hid ((G1.of (g := g) HG.out).trans hg2)
      have k2 := (hg2.cell _ 0 (cell_ltH kn) (by simp; omega)).trans kn
      clear hg2
      go_wp2
      go_roundw
      case rel => exact .inr ⟨rfl, rfl, HG2.out⟩
      case measure => simp [intOf]
set_option maxRecDepth 100000 in
set_option maxHeartbeats 16000000 in
theorem pos3_2 (g c : Nat) (w : World) (hx : IB g (gC 3 2) w) : Calls Tryd.prog 18 #[.agg #[.int .i64 1], .slice (some ⟨g, 0, none⟩) 3 c] w fun e w' => e = .returned (.int .i64 2) ∧ G1 g w w' := by
  have hx' : IB g [(1 : Int), (1 : Int), (0 : Int)] w := IB.cast hx (show gC 3 2 = [(1 : Int), (1 : Int), (0 : Int)] by kernel_rfl)
  have HX := Lib.hid (IB.up _ _ hx' ((Grow.refl w).alloc (.cells #[.int .i64 1] 37)))
  have HG := Lib.hid ((Grow.refl w).alloc (.cells #[.int .i64 1] 37))
  have kn : (w.alloc (.cells #[.int .i64 1] 37)).cell? ⟨w.heap.size, 0, none⟩ = some (.int .i64 1) := by go_simp
  have hgl := hx.1
  clear hx hx'
  go_enter Tryd.func18, Tryd.ntmps18
  go_wp2
  generalize w.alloc (.cells #[.int .i64 1] 37) = W0 at *
  go_loopw [5, 6] (fun d n wr => (d = .int .i64 0 ∧ n = .int .i64 0 ∧ wr = W0) ∨ (d = .int .i64 2 ∧ n = .int .i64 (-1) ∧ G1 g w wr)) (fun _ n _ => (1 + intOf n).toNat)
  case atStart => exact .inl ⟨rfl, rfl, rfl⟩
  case round =>
    rcases hrel with ⟨rfl, rfl, rfl⟩ | ⟨rfl, rfl, hg⟩
    case inr =>
      have HGG := Lib.hid hg
      clear hg kn
      go_wp2
      go_ret
      exact ⟨rfl, HGG.out⟩
    case inl =>
      obtain ⟨c0, -⟩ := HX.out.2 0 1 rfl
      obtain ⟨c1, -⟩ := HX.out.2 1 1 rfl
      obtain ⟨c2, -⟩ := HX.out.2 2 0 rfl
      go_wp2_with fail
      refine (rot3_any _ _ _ _ _ [(1 : Int), (1 : Int), (0 : Int)] _ HX.out (by simp) (by omega)).mono ?_
      rintro e w2 ⟨rfl, hg2, -⟩
      have HG2 := Lib.hid ((G1.of (g := g) HG.out).trans hg2)
      have k2 := (hg2.cell _ 0 (cell_ltH kn) (by simp; omega)).trans kn
      clear hg2
      go_wp2
      go_roundw
      case rel => exact .inr ⟨rfl, rfl, HG2.out⟩
      case measure => simp [intOf]
set_option maxRecDepth 100000 in
set_option maxHeartbeats 16000000 in
theorem pos3_3 (g c : Nat) (w : World) (hx : IB g (gC 3 3) w) : Calls Tryd.prog 18 #[.agg #[.int .i64 1], .slice (some ⟨g, 0, none⟩) 3 c] w fun e w' => e = .returned (.int .i64 3) ∧ G1 g w w' := by
  have hx' : IB g [(0 : Int), (1 : Int), (0 : Int)] w := IB.cast hx (show gC 3 3 = [(0 : Int), (1 : Int), (0 : Int)] by kernel_rfl)
  have HX := Lib.hid (IB.up _ _ hx' ((Grow.refl w).alloc (.cells #[.int .i64 1] 37)))
  have HG := Lib.hid ((Grow.refl w).alloc (.cells #[.int .i64 1] 37))
  have kn : (w.alloc (.cells #[.int .i64 1] 37)).cell? ⟨w.heap.size, 0, none⟩ = some (.int .i64 1) := by go_simp
  have hgl := hx.1
  clear hx hx'
  go_enter Tryd.func18, Tryd.ntmps18
  go_wp2
  generalize w.alloc (.cells #[.int .i64 1] 37) = W0 at *
  go_loopw [5, 6] (fun d n wr => (d = .int .i64 0 ∧ n = .int .i64 0 ∧ wr = W0) ∨ (d = .int .i64 3 ∧ n = .int .i64 (-1) ∧ G1 g w wr)) (fun _ n _ => (1 + intOf n).toNat)
  case atStart => exact .inl ⟨rfl, rfl, rfl⟩
  case round =>
    rcases hrel with ⟨rfl, rfl, rfl⟩ | ⟨rfl, rfl, hg⟩
    case inr =>
      have HGG := Lib.hid hg
      clear hg kn
      go_wp2
      go_ret
      exact ⟨rfl, HGG.out⟩
    case inl =>
      obtain ⟨c0, -⟩ := HX.out.2 0 0 rfl
      obtain ⟨c1, -⟩ := HX.out.2 1 1 rfl
      obtain ⟨c2, -⟩ := HX.out.2 2 0 rfl
      go_wp2_with fail
      refine (rot3_any _ _ _ _ _ [(0 : Int), (1 : Int), (0 : Int)] _ HX.out (by simp) (by omega)).mono ?_
      rintro e w2 ⟨rfl, hg2, -⟩
      have HG2 := Lib.hid ((G1.of (g := g) HG.out).trans hg2)
      have k2 := (hg2.cell _ 0 (cell_ltH kn) (by simp; omega)).trans kn
      clear hg2
      go_wp2
      go_roundw
      case rel => exact .inr ⟨rfl, rfl, HG2.out⟩
      case measure => simp [intOf]
set_option maxRecDepth 100000 in
set_option maxHeartbeats 16000000 in
theorem pos3_4 (g c : Nat) (w : World) (hx : IB g (gC 3 4) w) : Calls Tryd.prog 18 #[.agg #[.int .i64 1], .slice (some ⟨g, 0, none⟩) 3 c] w fun e w' => e = .returned (.int .i64 4) ∧ G1 g w w' := by
  have hx' : IB g [(0 : Int), (1 : Int), (1 : Int)] w := IB.cast hx (show gC 3 4 = [(0 : Int), (1 : Int), (1 : Int)] by kernel_rfl)
  have HX := Lib.hid (IB.up _ _ hx' ((Grow.refl w).alloc (.cells #[.int .i64 1] 37)))
  have HG := Lib.hid ((Grow.refl w).alloc (.cells #[.int .i64 1] 37))
  have kn : (w.alloc (.cells #[.int .i64 1] 37)).cell? ⟨w.heap.size, 0, none⟩ = some (.int .i64 1) := by go_simp
  have hgl := hx.1
  clear hx hx'
  go_enter Tryd.func18, Tryd.ntmps18
  go_wp2
  generalize w.alloc (.cells #[.int .i64 1] 37) = W0 at *
  go_loopw [5, 6] (fun d n wr => (d = .int .i64 0 ∧ n = .int .i64 0 ∧ wr = W0) ∨ (d = .int .i64 4 ∧ n = .int .i64 (-1) ∧ G1 g w wr)) (fun _ n _ => (1 + intOf n).toNat)
  case atStart => exact .inl ⟨rfl, rfl, rfl⟩
  case round =>
    rcases hrel with ⟨rfl, rfl, rfl⟩ | ⟨rfl, rfl, hg⟩
    case inr =>
      have HGG := Lib.hid hg
      clear hg kn
      go_wp2
      go_ret
      exact ⟨rfl, HGG.out⟩
    case inl =>
      obtain ⟨c0, -⟩ := HX.out.2 0 0 rfl
      obtain ⟨c1, -⟩ := HX.out.2 1 1 rfl
      obtain ⟨c2, -⟩ := HX.out.2 2 1 rfl
      go_wp2_with fail
      refine (rot3_any _ _ _ _ _ [(0 : Int), (1 : Int), (1 : Int)] _ HX.out (by simp) (by omega)).mono ?_
      rintro e w2 ⟨rfl, hg2, -⟩
      have HG2 := Lib.hid ((G1.of (g := g) HG.out).trans hg2)
      have k2 := (hg2.cell _ 0 (cell_ltH kn) (by simp; omega)).trans kn
      clear hg2
      go_wp2
      go_roundw
      case rel => exact .inr ⟨rfl, rfl, HG2.out⟩
      case measure => simp [intOf]
set_option maxRecDepth 100000 in
set_option maxHeartbeats 16000000 in
theorem pos3_5 (g c : Nat) (w : World) (hx : IB g (gC 3 5) w) : Calls Tryd.prog 18 #[.agg #[.int .i64 1], .slice (some ⟨g, 0, none⟩) 3 c] w fun e w' => e = .returned (.int .i64 5) ∧ G1 g w w' := by
  have hx' : IB g [(1 : Int), (1 : Int), (1 : Int)] w := IB.cast hx (show gC 3 5 = [(1 : Int), (1 : Int), (1 : Int)] by kernel_rfl)
  have HX := Lib.hid (IB.up _ _ hx' ((Grow.refl w).alloc (.cells #[.int .i64 1] 37)))
  have HG := Lib.hid ((Grow.refl w).alloc (.cells #[.int .i64 1] 37))
  have kn : (w.alloc (.cells #[.int .i64 1] 37)).cell? ⟨w.heap.size, 0, none⟩ = some (.int .i64 1) := by go_simp
  have hgl := hx.1
  clear hx hx'
  go_enter Tryd.func18, Tryd.ntmps18
  go_wp2
  generalize w.alloc (.cells #[.int .i64 1] 37) = W0 at *
  go_loopw [5, 6] (fun d n wr => (d = .int .i64 0 ∧ n = .int .i64 0 ∧ wr = W0) ∨ (d = .int .i64 5 ∧ n = .int .i64 (-1) ∧ G1 g w wr)) (fun _ n _ => (1 + intOf n).toNat)
  case atStart => exact .inl ⟨rfl, rfl, rfl⟩
  case round =>
    rcases hrel with ⟨rfl, rfl, rfl⟩ | ⟨rfl, rfl, hg⟩
    case inr =>
      have HGG := Lib.hid hg
      clear hg kn
      go_wp2
      go_ret
      exact ⟨rfl, HGG.out⟩
    case inl =>
      obtain ⟨c0, -⟩ := HX.out.2 0 1 rfl
      obtain ⟨c1, -⟩ := HX.out.2 1 1 rfl
      obtain ⟨c2, -⟩ := HX.out.2 2 1 rfl
      go_wp2_with fail
      refine (rot3_any _ _ _ _ _ [(1 : Int), (1 : Int), (1 : Int)] _ HX.out (by simp) (by omega)).mono ?_
      rintro e w2 ⟨rfl, hg2, -⟩
      have HG2 := Lib.hid ((G1.of (g := g) HG.out).trans hg2)
      have k2 := (hg2.cell _ 0 (cell_ltH kn) (by simp; omega)).trans kn
      clear hg2
      go_wp2
      go_roundw
      case rel => exact .inr ⟨rfl, rfl, HG2.out⟩
      case measure => simp [intOf]
set_option maxRecDepth 100000 in
set_option maxHeartbeats 16000000 in
theorem pos3_6 (g c : Nat) (w : World) (hx : IB g (gC 3 6) w) : Calls Tryd.prog 18 #[.agg #[.int .i64 1], .slice (some ⟨g, 0, none⟩) 3 c] w fun e w' => e = .returned (.int .i64 6) ∧ G1 g w w' := by
  have hx' : IB g [(1 : Int), (0 : Int), (1 : Int)] w := IB.cast hx (show gC 3 6 = [(1 : Int), (0 : Int), (1 : Int)] by kernel_rfl)
  have HX := Lib.hid (IB.up _ _ hx' ((Grow.refl w).alloc (.cells #[.int .i64 1] 37)))
  have HG := Lib.hid ((Grow.refl w).alloc (.cells #[.int .i64 1] 37))
  have kn : (w.alloc (.cells #[.int .i64 1] 37)).cell? ⟨w.heap.size, 0, none⟩ = some (.int .i64 1) := by go_simp
  have hgl := hx.1
  clear hx hx'
  go_enter Tryd.func18, Tryd.ntmps18
  go_wp2
  generalize w.alloc (.cells #[.int .i64 1] 37) = W0 at *
  go_loopw [5, 6] (fun d n wr => (d = .int .i64 0 ∧ n = .int .i64 0 ∧ wr = W0) ∨ (d = .int .i64 6 ∧ n = .int .i64 (-1) ∧ G1 g w wr)) (fun _ n _ => (1 + intOf n).toNat)
  case atStart => exact .inl ⟨rfl, rfl, rfl⟩
  case round =>
    rcases hrel with ⟨rfl, rfl, rfl⟩ | ⟨rfl, rfl, hg⟩
    case inr =>
      have HGG := Lib.hid hg
      clear hg kn
      go_wp2
      go_ret
      exact ⟨rfl, HGG.out⟩
    case inl =>
      obtain ⟨c0, -⟩ := HX.out.2 0 1 rfl
      obtain ⟨c1, -⟩ := HX.out.2 1 0 rfl
      obtain ⟨c2, -⟩ := HX.out.2 2 1 rfl
      go_wp2_with fail
      refine (rot3_any _ _ _ _ _ [(1 : Int), (0 : Int), (1 : Int)] _ HX.out (by simp) (by omega)).mono ?_
      rintro e w2 ⟨rfl, hg2, -⟩
      have HG2 := Lib.hid ((G1.of (g := g) HG.out).trans hg2)
      have k2 := (hg2.cell _ 0 (cell_ltH kn) (by simp; omega)).trans kn
      clear hg2
      go_wp2
      go_roundw
      case rel => exact .inr ⟨rfl, rfl, HG2.out⟩
      case measure => simp [intOf]
set_option maxRecDepth 100000 in
set_option maxHeartbeats 16000000 in
theorem pos3_7 (g c : Nat) (w : World) (hx : IB g (gC 3 7) w) : Calls Tryd.prog 18 #[.agg #[.int .i64 1], .slice (some ⟨g, 0, none⟩) 3 c] w fun e w' => e = .returned (.int .i64 7) ∧ G1 g w w' := by
  have hx' : IB g [(0 : Int), (0 : Int), (1 : Int)] w := IB.cast hx (show gC 3 7 = [(0 : Int), (0 : Int), (1 : Int)] by kernel_rfl)
  have HX := Lib.hid (IB.up _ _ hx' ((Grow.refl w).alloc (.cells #[.int .i64 1] 37)))
  have HG := Lib.hid ((Grow.refl w).alloc (.cells #[.int .i64 1] 37))
  have kn : (w.alloc (.cells #[.int .i64 1] 37)).cell? ⟨w.heap.size, 0, none⟩ = some (.int .i64 1) := by go_simp
  have hgl := hx.1
  clear hx hx'
  go_enter Tryd.func18, Tryd.ntmps18
  go_wp2
  generalize w.alloc (.cells #[.int .i64 1] 37) = W0 at *
  go_loopw [5, 6] (fun d n wr => (d = .int .i64 0 ∧ n = .int .i64 0 ∧ wr = W0) ∨ (d = .int .i64 7 ∧ n = .int .i64 (-1) ∧ G1 g w wr)) (fun _ n _ => (1 + intOf n).toNat)
  case atStart => exact .inl ⟨rfl, rfl, rfl⟩
  case round =>
    rcases hrel with ⟨rfl, rfl, rfl⟩ | ⟨rfl, rfl, hg⟩
    case inr =>
      have HGG := Lib.hid hg
      clear hg kn
      go_wp2
      go_ret
      exact ⟨rfl, HGG.out⟩
    case inl =>
      obtain ⟨c0, -⟩ := HX.out.2 0 0 rfl
      obtain ⟨c1, -⟩ := HX.out.2 1 0 rfl
      obtain ⟨c2, -⟩ := HX.out.2 2 1 rfl
      go_wp2_with fail
      refine (rot3_any _ _ _ _ _ [(0 : Int), (0 : Int), (1 : Int)] _ HX.out (by simp) (by omega)).mono ?_
      rintro e w2 ⟨rfl, hg2, -⟩
      have HG2 := Lib.hid ((G1.of (g := g) HG.out).trans hg2)
      have k2 := (hg2.cell _ 0 (cell_ltH kn) (by simp; omega)).trans kn
      clear hg2
      go_wp2
      go_roundw
      case rel => exact .inr ⟨rfl, rfl, HG2.out⟩
      case measure => simp [intOf]
end Go.Proofs.YtkcpjndelcfmhaaDoor
