import Derived.Test.YtkcpjndelcfmhaaDoorHbC
import Derived.Deep.OwnRows
namespace Go.Proofs.YtkcpjndelcfmhaaDoor
open Go.ChangeShapes Go.WideShapes Go.ChangeAt Go.RowKit Go.GrowR
set_option linter.unusedVariables false
set_option linter.unusedSimpArgs false
set_option maxRecDepth 100000 in
set_option maxHeartbeats 16000000 in
theorem pos4_0 (g c : Nat) (w : World) (hx : IB g (gC 4 0) w) : Calls Tryd.prog 19 #[.agg #[.int .i64 1], .slice (some ⟨g, 0, none⟩) 4 c] w fun e w' => e = .returned (.int .i64 0) ∧ G1 g w w' := by
  have hx' : IB g [(0 : Int), (0 : Int), (0 : Int), (0 : Int)] w := IB.cast hx (show gC 4 0 = [(0 : Int), (0 : Int), (0 : Int), (0 : Int)] by kernel_rfl)
  have HX := Lib.hid (IB.up _ _ hx' ((Grow.refl w).alloc (.cells #[.int .i64 1] 40)))
  have HG := Lib.hid ((Grow.refl w).alloc (.cells #[.int .i64 1] 40))
  have kn : (w.alloc (.cells #[.int .i64 1] 40)).cell? ⟨w.heap.size, 0, none⟩ = some (.int .i64 1) := by go_simp
  have hgl := hx.1
  clear hx hx'
  go_enter Tryd.func19, Tryd.ntmps19
  go_wp2
  generalize w.alloc (.cells #[.int .i64 1] 40) = W0 at *
  go_loopw [5, 6] (fun d n wr => (d = .int .i64 0 ∧ n = .int .i64 0 ∧ wr = W0) ∨ (d = .int .i64 0 ∧ n = .int .i64 (-1) ∧ G1 g w wr)) (fun _ n _ => (1 + intOf n).toNat)
  case atStart => exact .inl ⟨rfl, rfl, rfl⟩
  case round =>
    rcases hrel with ⟨rfl, rfl, rfl⟩ | ⟨rfl, rfl, hg⟩
    case inr =>
      have HGG := Lib.hid hg
      clear hg kn
      go_wp2
      go_ret
      exact ⟨rfl, HGG.out⟩
    case inl =>
      go_wp2
      go_loopw [7, 8] (fun e i wq => (e = .int .i64 0 ∧ i = .int .i64 (3) ∧ wq = wr) ∨ (e = .int .i64 0 ∧ i = .int .i64 (2) ∧ wq = wr) ∨ (e = .int .i64 0 ∧ i = .int .i64 (1) ∧ wq = wr) ∨ (e = .int .i64 0 ∧ i = .int .i64 (0) ∧ wq = wr) ∨ (e = .int .i64 0 ∧ i = .int .i64 (-1) ∧ wq = wr)) (fun _ i _ => (1 + intOf i).toNat)
      case atStart => exact .inl ⟨rfl, rfl, rfl⟩
      case round =>
        rcases hrel with ⟨rfl, rfl, rfl⟩ | ⟨rfl, rfl, rfl⟩ | ⟨rfl, rfl, rfl⟩ | ⟨rfl, rfl, rfl⟩ | ⟨rfl, rfl, rfl⟩
        · obtain ⟨cc, -⟩ := HX.out.2 3 0 rfl
          go_wp2
          go_roundw
          case rel => exact .inr (.inl ⟨rfl, rfl, trivial⟩)
          case measure => simp [intOf]
        · obtain ⟨cc, -⟩ := HX.out.2 2 0 rfl
          go_wp2
          go_roundw
          case rel => exact .inr (.inr (.inl ⟨rfl, rfl, trivial⟩))
          case measure => simp [intOf]
        · obtain ⟨cc, -⟩ := HX.out.2 1 0 rfl
          go_wp2
          go_roundw
          case rel => exact .inr (.inr (.inr (.inl ⟨rfl, rfl, trivial⟩)))
          case measure => simp [intOf]
        · obtain ⟨cc, -⟩ := HX.out.2 0 0 rfl
          go_wp2
          go_roundw
          case rel => exact .inr (.inr (.inr (.inr (⟨rfl, rfl, trivial⟩))))
          case measure => simp [intOf]
        · go_wp2_with fail
          refine (rot4_any _ _ _ _ _ [(0 : Int), (0 : Int), (0 : Int), (0 : Int)] _ HX.out (by simp) (by omega)).mono ?_
          rintro e w2 ⟨rfl, hg2, -⟩
          have HG2 := Lib.hid ((G1.of (g := g) HG.out).trans hg2)
          have k2 := (hg2.cell _ 0 (cell_ltH kn) (by simp; omega)).trans kn
          clear hg2
          go_wp2
          go_roundw
          case rel => exact .inr ⟨rfl, rfl, HG2.out⟩
          case measure => simp [intOf]
set_option maxRecDepth 100000 in
set_option maxHeartbeats 16000000 in
theorem pos4_1 (g c : Nat) (w : World) (hx : IB g (gC 4 1) w) : Calls Tryd.prog 19 #[.agg #[.int .i64 1], .slice (some ⟨g, 0, none⟩) 4 c] w fun e w' => e = .returned (.int .i64 1) ∧ G1 g w w' := by
  have hx' : IB g [(1 : Int), (0 : Int), (0 : Int), (0 : Int)] w := IB.cast hx (show gC 4 1 = [(1 : Int), (0 : Int), (0 : Int), (0 : Int)] by kernel_rfl)
  have HX := Lib.hid (IB.up _ _ hx' ((Grow.refl w).alloc (.cells #[.int .i64 1] 40)))
  have HG := Lib.hid ((Grow.refl w).alloc (.cells #[.int .i64 1] 40))
  have kn : (w.alloc (.cells #[.int .i64 1] 40)).cell? ⟨w.heap.size, 0, none⟩ = some (.int .i64 1) := by go_simp
  have hgl := hx.1
  clear hx hx'
  go_enter Tryd.func19, Tryd.ntmps19
  go_wp2
  generalize w.alloc (.cells #[.int .i64 1] 40) = W0 at *
  go_loopw [5, 6] (fun d n wr => (d = .int .i64 0 ∧ n = .int .i64 0 ∧ wr = W0) ∨ (d = .int .i64 1 ∧ n = .int .i64 (-1) ∧ G1 g w wr)) (fun _ n _ => (1 + intOf n).toNat)
  case atStart => exact .inl ⟨rfl, rfl, rfl⟩
  case round =>
    rcases hrel with ⟨rfl, rfl, rfl⟩ | ⟨rfl, rfl, hg⟩
    case inr =>
      have HGG := Lib.hid hg
      clear hg kn
      go_wp2
      go_ret
      exact ⟨rfl, HGG.out⟩
    case inl =>
      go_wp2
      go_loopw [7, 8] (fun e i wq => (e = .int .i64 0 ∧ i = .int .i64 (3) ∧ wq = wr) ∨ (e = .int .i64 0 ∧ i = .int .i64 (2) ∧ wq = wr) ∨ (e = .int .i64 0 ∧ i = .int .i64 (1) ∧ wq = wr) ∨ (e = .int .i64 0 ∧ i = .int .i64 (0) ∧ wq = wr) ∨ (e = .int .i64 1 ∧ i = .int .i64 (-1) ∧ wq = wr)) (fun _ i _ => (1 + intOf i).toNat)
      case atStart => exact .inl ⟨rfl, rfl, rfl⟩
      case round =>
        rcases hrel with ⟨rfl, rfl, rfl⟩ | ⟨rfl, rfl, rfl⟩ | ⟨rfl, rfl, rfl⟩ | ⟨rfl, rfl, rfl⟩ | ⟨rfl, rfl, rfl⟩
        · obtain ⟨cc, -⟩ := HX.out.2 3 0 rfl
          go_wp2
          go_roundw
          case rel => exact .inr (.inl ⟨rfl, rfl, trivial⟩)
          case measure => simp [intOf]
        · obtain ⟨cc, -⟩ := HX.out.2 2 0 rfl
          go_wp2
          go_roundw
          case rel => exact .inr (.inr (.inl ⟨rfl, rfl, trivial⟩))
          case measure => simp [intOf]
        · obtain ⟨cc, -⟩ := HX.out.2 1 0 rfl
          go_wp2
          go_roundw
          case rel => exact .inr (.inr (.inr (.inl ⟨rfl, rfl, trivial⟩)))
          case measure => simp [intOf]
        · obtain ⟨cc, -⟩ := HX.out.2 0 1 rfl
          go_wp2
          go_roundw
          case rel => exact .inr (.inr (.inr (.inr (⟨rfl, rfl, trivial⟩))))
          case measure => simp [intOf]
        · go_wp2_with fail
          refine (rot4_any _ _ _ _ _ [(1 : Int), (0 : Int), (0 : Int), (0 : Int)] _ HX.out (by simp) (by omega)).mono ?_
          rintro e w2 ⟨rfl, hg2, -⟩
          have HG2 := Lib.hid ((G1.of (g := g) HG.out).trans hg2)
          have k2 := (hg2.cell _ 0 (cell_ltH kn) (by simp; omega)).trans kn
          clear hg2
          go_wp2
          go_roundw
          case rel => exact .inr ⟨rfl, rfl, HG2.out⟩
          case measure => simp [intOf]
set_option maxRecDepth 100000 in
set_option maxHeartbeats 16000000 in
theorem pos4_2 (g c : Nat) (w : World) (hx : IB g (gC 4 2) w) : Calls Tryd.prog 19 #[.agg #[.int .i64 1], .slice (some ⟨g, 0, none⟩) 4 c] w fun e w' => e = .returned (.int .i64 2) ∧ G1 g w w' := by
  have hx' : IB g [(1 : Int), (1 : Int), (0 : Int), (0 : Int)] w := IB.cast hx (show gC 4 2 = [(1 : Int), (1 : Int), (0 : Int), (0 : Int)] by kernel_rfl)
  have HX := Lib.hid (IB.up _ _ hx' ((Grow.refl w).alloc (.cells #[.int .i64 1] 40)))
  have HG := Lib.hid ((Grow.refl w).alloc (.cells #[.int .i64 1] 40))
  have kn : (w.alloc (.cells #[.int .i64 1] 40)).cell? ⟨w.heap.size, 0, none⟩ = some (.int .i64 1) := by go_simp
  have hgl := hx.1
  clear hx hx'
  go_enter Tryd.func19, Tryd.ntmps19
  go_wp2
  generalize w.alloc (.cells #[.int .i64 1] 40) = W0 at *
  go_loopw [5, 6] (fun d n wr => (d = .int .i64 0 ∧ n = .int .i64 0 ∧ wr = W0) ∨ (d = .int .i64 2 ∧ n = .int .i64 (-1) ∧ G1 g w wr)) (fun _ n _ => (1 + intOf n).toNat)
  case atStart => exact .inl ⟨rfl, rfl, rfl⟩
  case round =>
    rcases hrel with ⟨rfl, rfl, rfl⟩ | ⟨rfl, rfl, hg⟩
    case inr =>
      have HGG := Lib.hid hg
      clear hg kn
      go_wp2
      go_ret
      exact ⟨rfl, HGG.out⟩
    case inl =>
      go_wp2
      go_loopw [7, 8] (fun e i wq => (e = .int .i64 0 ∧ i = .int .i64 (3) ∧ wq = wr) ∨ (e = .int .i64 0 ∧ i = .int .i64 (2) ∧ wq = wr) ∨ (e = .int .i64 0 ∧ i = .int .i64 (1) ∧ wq = wr) ∨ (e = .int .i64 1 ∧ i = .int .i64 (0) ∧ wq = wr) ∨ (e = .int .i64 2 ∧ i = .int .i64 (-1) ∧ wq = wr)) (fun _ i _ => (1 + intOf i).toNat)
      case atStart => exact .inl ⟨rfl, rfl, rfl⟩
      case round =>
        rcases hrel with ⟨rfl, rfl, rfl⟩ | ⟨rfl, rfl, rfl⟩ | ⟨rfl, rfl, rfl⟩ | ⟨rfl, rfl, rfl⟩ | ⟨rfl, rfl, rfl⟩
        · obtain ⟨cc, -⟩ := HX.out.2 3 0 rfl
          go_wp2
          go_roundw
          case rel => exact .inr (.inl ⟨rfl, rfl, trivial⟩)
          case measure => simp [intOf]
        · obtain ⟨cc, -⟩ := HX.out.2 2 0 rfl
          go_wp2
          go_roundw
          case rel => exact .inr (.inr (.inl ⟨rfl, rfl, trivial⟩))
          case measure => simp [intOf]
        · obtain ⟨cc, -⟩ := HX.out.2 1 1 rfl
          go_wp2
          go_roundw
          case rel => exact .inr (.inr (.inr (.inl ⟨rfl, rfl, trivial⟩)))
          case measure => simp [intOf]
        · obtain ⟨cc, -⟩ := HX.out.2 0 1 rfl
          go_wp2
          go_roundw
          case rel => exact .inr (.inr (.inr (.inr (⟨rfl, rfl, trivial⟩))))
          case measure => simp [intOf]
        · go_wp2_with fail
          refine (rot4_any _ _ _ _ _ [(1 : Int), (1 : Int), (0 : Int), (0 : Int)] _ HX.out (by simp) (by omega)).mono ?_
          rintro e w2 ⟨rfl, hg2, -⟩
          have HG2 := Lib.hid ((G1.of (g := g) HG.out).trans hg2)
          have k2 := (hg2.cell _ 0 (cell_ltH kn) (by simp; omega)).trans kn
          clear hg2
          go_wp2
          go_roundw
          case rel => exact .inr ⟨rfl, rfl, HG2.out⟩
          case measure => simp [intOf]
set_option maxRecDepth 100000 in
set_option maxHeartbeats 16000000 in
theorem pos4_3 (g c : Nat) (w : World) (hx : IB g (gC 4 3) w) : Calls Tryd.prog 19 #[.agg #[.int .i64 1], .slice (some ⟨g, 0, none⟩) 4 c] w fun e w' => e = .returned (.int .i64 3) ∧ G1 g w w' := by
  have hx' : IB g [(0 : Int), (1 : Int), (0 : Int), (0 : Int)] w := IB.cast hx (show gC 4 3 = [(0 : Int), (1 : Int), (0 : Int), (0 : Int)] by kernel_rfl)
  have HX := Lib.hid (IB.up _ _ hx' ((Grow.refl w).alloc (.cells #[.int .i64 1] 40)))
  have HG := Lib.hid ((Grow.refl w).alloc (.cells #[.int .i64 1] 40))
  have kn : (w.alloc (.cells #[.int .i64 1] 40)).cell? ⟨w.heap.size, 0, none⟩ = some (.int .i64 1) := by go_simp
  have hgl := hx.1
  clear hx hx'
  go_enter Tryd.func19, Tryd.ntmps19
  go_wp2
  generalize w.alloc (.cells #[.int .i64 1] 40) = W0 at *
  go_loopw [5, 6] (fun d n wr => (d = .int .i64 0 ∧ n = .int .i64 0 ∧ wr = W0) ∨ (d = .int .i64 3 ∧ n = .int .i64 (-1) ∧ G1 g w wr)) (fun _ n _ => (1 + intOf n).toNat)
  case atStart => exact .inl ⟨rfl, rfl, rfl⟩
  case round =>
    rcases hrel with ⟨rfl, rfl, rfl⟩ | ⟨rfl, rfl, hg⟩
    case inr =>
      have HGG := Lib.hid hg
      clear hg kn
      go_wp2
      go_ret
      exact ⟨rfl, HGG.out⟩
    case inl =>
      go_wp2
      go_loopw [7, 8] (fun e i wq => (e = .int .i64 0 ∧ i = .int .i64 (3) ∧ wq = wr) ∨ (e = .int .i64 0 ∧ i = .int .i64 (2) ∧ wq = wr) ∨ (e = .int .i64 0 ∧ i = .int .i64 (1) ∧ wq = wr) ∨ (e = .int .i64 1 ∧ i = .int .i64 (0) ∧ wq = wr) ∨ (e = .int .i64 3 ∧ i = .int .i64 (-1) ∧ wq = wr)) (fun _ i _ => (1 + intOf i).toNat)
      case atStart => exact .inl ⟨rfl, rfl, rfl⟩
      case round =>
        rcases hrel with ⟨rfl, rfl, rfl⟩ | ⟨rfl, rfl, rfl⟩ | ⟨rfl, rfl, rfl⟩ | ⟨rfl, rfl, rfl⟩ | ⟨rfl, rfl, rfl⟩
        · obtain ⟨cc, -⟩ := HX.out.2 3 0 rfl
          go_wp2
          go_roundw
          case rel => exact .inr (.inl ⟨rfl, rfl, trivial⟩)
          case measure => simp [intOf]
        · obtain ⟨cc, -⟩ := HX.out.2 2 0 rfl
          go_wp2
          go_roundw
          case rel => exact .inr (.inr (.inl ⟨rfl, rfl, trivial⟩))
          case measure => simp [intOf]
        · obtain ⟨cc, -⟩ := HX.out.2 1 1 rfl
          go_wp2
          go_roundw
          case rel => exact .inr (.inr (.inr (.inl ⟨rfl, rfl, trivial⟩)))
          case measure => simp [intOf]
        · obtain ⟨cc, -⟩ := HX.out.2 0 0 rfl
          go_wp2
          go_roundw
          case rel => exact .inr (.inr (.inr (.inr (⟨rfl, rfl, trivial⟩))))
          case measure => simp [intOf]
        · go_wp2_with fail
          refine (rot4_any _ _ _ _ _ [(0 : Int), (1 : Int), (0 : Int), (0 : Int)] _ HX.out (by simp) (by omega)).mono ?_
          rintro e w2 ⟨rfl, hg2, -⟩
          have HG2 := Lib.hid ((G1.of (g := g) HG.out).trans hg2)
          have k2 := (hg2.cell _ 0 (cell_ltH kn) (by simp; omega)).trans kn
          clear hg2
          go_wp2
          go_roundw
          case rel => exact .inr ⟨rfl, rfl, HG2.out⟩
          case measure => simp [intOf]
set_option maxRecDepth 100000 in
set_option maxHeartbeats 16000000 in
theorem pos4_4 (g c : Nat) (w : World) (hx : IB g (gC 4 4) w) : Calls Tryd.prog 19 #[.agg #[.int .i64 1], .slice (some ⟨g, 0, none⟩) 4 c] w fun e w' => e = .returned (.int .i64 4) ∧ G1 g w w' := by
  have hx' : IB g [(0 : Int), (1 : Int), (1 : Int), (0 : Int)] w := IB.cast hx (show gC 4 4 = [(0 : Int), (1 : Int), (1 : Int), (0 : Int)] by kernel_rfl)
  have HX := Lib.hid (IB.up _ _ hx' ((Grow.refl w).alloc (.cells #[.int .i64 1] 40)))
  have HG := Lib.hid ((Grow.refl w).alloc (.cells #[.int .i64 1] 40))
  have kn : (w.alloc (.cells #[.int .i64 1] 40)).cell? ⟨w.heap.size, 0, none⟩ = some (.int .i64 1) := by go_simp
  have hgl := hx.1
  clear hx hx'
  go_enter Tryd.func19, Tryd.ntmps19
  go_wp2
  generalize w.alloc (.cells #[.int .i64 1] 40) = W0 at *
  go_loopw [5, 6] (fun d n wr => (d = .int .i64 0 ∧ n = .int .i64 0 ∧ wr = W0) ∨ (d = .int .i64 4 ∧ n = .int .i64 (-1) ∧ G1 g w wr)) (fun _ n _ => (1 + intOf n).toNat)
  case atStart => exact .inl ⟨rfl, rfl, rfl⟩
  case round =>
    rcases hrel with ⟨rfl, rfl, rfl⟩ | ⟨rfl, rfl, hg⟩
    case inr =>
      have HGG := Lib.hid hg
      clear hg kn
      go_wp2
      go_ret
      exact ⟨rfl, HGG.out⟩
    case inl =>
      go_wp2
      go_loopw [7, 8] (fun e i wq => (e = .int .i64 0 ∧ i = .int .i64 (3) ∧ wq = wr) ∨ (e = .int .i64 0 ∧ i = .int .i64 (2) ∧ wq = wr) ∨ (e = .int .i64 1 ∧ i = .int .i64 (1) ∧ wq = wr) ∨ (e = .int .i64 2 ∧ i = .int .i64 (0) ∧ wq = wr) ∨ (e = .int .i64 4 ∧ i = .int .i64 (-1) ∧ wq = wr)) (fun _ i _ => (1 + intOf i).toNat)
      case atStart => exact .inl ⟨rfl, rfl, rfl⟩
      case round =>
        rcases hrel with ⟨rfl, rfl, rfl⟩ | ⟨rfl, rfl, rfl⟩ | ⟨rfl, rfl, rfl⟩ | ⟨rfl, rfl, rfl⟩ | ⟨rfl, rfl, rfl⟩
        · obtain ⟨cc, -⟩ := HX.out.2 3 0 rfl
          go_wp2
          go_roundw
          case rel => exact .inr (.inl ⟨rfl, rfl, trivial⟩)
          case measure => simp [intOf]
        · obtain ⟨cc, -⟩ := HX.out.2 2 1 rfl
          go_wp2
          go_roundw
          case rel => exact .inr (.inr (.inl ⟨rfl, rfl, trivial⟩))
          case measure => simp [intOf]
        · obtain ⟨cc, -⟩ := HX.out.2 1 1 rfl
          go_wp2
          go_roundw
          case rel => exact .inr (.inr (.inr (.inl ⟨rfl, rfl, trivial⟩)))
          case measure => simp [intOf]
        · obtain ⟨cc, -⟩ := HX.out.2 0 0 rfl
          go_wp2
          go_roundw
          case rel => exact .inr (.inr (.inr (.inr (⟨rfl, rfl, trivial⟩))))
          case measure => simp [intOf]
        · go_wp2_with fail
          refine (rot4_any _ _ _ _ _ [(0 : Int), (1 : Int), (1 : Int), (0 : Int)] _ HX.out (by simp) (by omega)).mono ?_
          rintro e w2 ⟨rfl, hg2, -⟩
          have HG2 := Lib.hid ((G1.of (g := g) HG.out).trans hg2)
          have k2 := (hg2.cell _ 0 (cell_ltH kn) (by simp; omega)).trans kn
          clear hg2
          go_wp2
          go_roundw
          case rel => exact .inr ⟨rfl, rfl, HG2.out⟩
          case measure => simp [intOf]
set_option maxRecDepth 100000 in
set_option maxHeartbeats 16000000 in
theorem pos4_5 (g c : Nat) (w : World) (hx : IB g (gC 4 5) w) : Calls Tryd.prog 19 #[.agg #[.int .i64 1], .slice (some ⟨g, 0, none⟩) 4 c] w fun e w' => e = .returned (.int .i64 5) ∧ G1 g w w' := by
  have hx' : IB g [(1 : Int), (1 : Int), (1 : Int), (0 : Int)] w := IB.cast hx (show gC 4 5 = [(1 : Int), (1 : Int), (1 : Int), (0 : Int)] by kernel_rfl)
  have HX := Lib.hid (IB.up _ _ hx' ((Grow.refl w).alloc (.cells #[.int .i64 1] 40)))
  have HG := Lib.hid ((Grow.refl w).alloc (.cells #[.int .i64 1] 40))
  have kn : (w.alloc (.cells #[.int .i64 1] 40)).cell? ⟨w.heap.size, 0, none⟩ = some (.int .i64 1) := by go_simp
  have hgl := hx.1
  clear hx hx'
  go_enter Tryd.func19, Tryd.ntmps19
  go_wp2
  generalize w.alloc (.cells #[.int .i64 1] 40) = W0 at *
  go_loopw [5, 6] (fun d n wr => (d = .int .i64 0 ∧ n = .int .i64 0 ∧ wr = W0) ∨ (d = .int .i64 5 ∧ n = .int .i64 (-1) ∧ G1 g w wr)) (fun _ n _ => (1 + intOf n).toNat)
  case atStart => exact .inl ⟨rfl, rfl, rfl⟩
  case round =>
    rcases hrel with ⟨rfl, rfl, rfl⟩ | ⟨rfl, rfl, hg⟩
    case inr =>
      have HGG := Lib.hid hg
      clear hg kn
      go_wp2
      go_ret
      exact ⟨rfl, HGG.out⟩
    case inl =>
      go_wp2
      go_loopw [7, 8] (fun e i wq => (e = .int .i64 0 ∧ i = .int .i64 (3) ∧ wq = wr) ∨ (e = .int .i64 0 ∧ i = .int .i64 (2) ∧ wq = wr) ∨ (e = .int .i64 1 ∧ i = .int .i64 (1) ∧ wq = wr) ∨ (e = .int .i64 2 ∧ i = .int .i64 (0) ∧ wq = wr) ∨ (e = .int .i64 5 ∧ i = .int .i64 (-1) ∧ wq = wr)) (fun _ i _ => (1 + intOf i).toNat)
      case atStart => exact .inl ⟨rfl, rfl, rfl⟩
      case round =>
        rcases hrel with ⟨rfl, rfl, rfl⟩ | ⟨rfl, rfl, rfl⟩ | ⟨rfl, rfl, rfl⟩ | ⟨rfl, rfl, rfl⟩ | ⟨rfl, rfl, rfl⟩
        · obtain ⟨cc, -⟩ := HX.out.2 3 0 rfl
          go_wp2
          go_roundw
          case rel => exact .inr (.inl ⟨rfl, rfl, trivial⟩)
          case measure => simp [intOf]
        · obtain ⟨cc, -⟩ := HX.out.2 2 1 rfl
          go_wp2
          go_roundw
          case rel => exact .inr (.inr (.inl ⟨rfl, rfl, trivial⟩))
          case measure => simp [intOf]
        · obtain ⟨cc, -⟩ := HX.out.2 1 1 rfl
          go_wp2
          go_roundw
          case rel => exact .inr (.inr (.inr (.inl ⟨rfl, rfl, trivial⟩)))
          case measure => simp [intOf]
        · obtain ⟨cc, -⟩ := HX.out.2 0 1 rfl
          go_wp2
          go_roundw
          case rel => exact .inr (.inr (.inr (.inr (⟨rfl, rfl, trivial⟩))))
          case measure => simp [intOf]
        · go_wp2_with fail
          refine (rot4_any _ _ _ _ _ [(1 : Int), (1 : Int), (1 : Int), (0 : Int)] _ HX.out (by simp) (by omega)).mono ?_
          rintro e w2 ⟨rfl, hg2, -⟩
          have HG2 := Lib.hid ((G1.of (g := g) HG.out).trans hg2)
          have k2 := (hg2.cell _ 0 (cell_ltH kn) (by simp; omega)).trans kn
          clear hg2
          go_wp2
          go_roundw
          case rel => exact .inr ⟨rfl, rfl, HG2.out⟩
          case measure => simp [intOf]
set_option maxRecDepth 100000 in
set_option maxHeartbeats 16000000 in
theorem pos4_6 (g c : Nat) (w : World) (hx : IB g (gC 4 6) w) : Calls Tryd.prog 19 #[.agg #[.int .i64 1], .slice (some ⟨g, 0, none⟩) 4 c] w fun e w' => e = .returned (.int .i64 6) ∧ G1 g w w' := by
  have hx' : IB g [(1 : Int), (0 : Int), (1 : Int), (0 : Int)] w := IB.cast hx (show gC 4 6 = [(1 : Int), (0 : Int), (1 : Int), (0 : Int)] by kernel_rfl)
  have HX := Lib.hid (IB.up _ _ hx' ((Grow.refl w).alloc (.cells #[.int .i64 1] 40)))
  have HG := Lib.hid ((Grow.refl w).alloc (.cells #[.int .i64 1] 40))
  have kn : (w.alloc (.cells #[.int .i64 1] 40)).cell? ⟨w.heap.size, 0, none⟩ = some (.int .i64 1) := by go_simp
  have hgl := hx.1
  clear hx hx'
  go_enter Tryd.func19, Tryd.ntmps19
  go_wp2
  generalize w.alloc (.cells #[.int .i64 1] 40) = W0 at *
  go_loopw [5, 6] (fun d n wr => (d = .int .i64 0 ∧ n = .int .i64 0 ∧ wr = W0) ∨ (d = .int .i64 6 ∧ n = .int .i64 (-1) ∧ G1 g w wr)) (fun _ n _ => (1 + intOf n).toNat)
  case atStart => exact .inl ⟨rfl, rfl, rfl⟩
  case round =>
    rcases hrel with ⟨rfl, rfl, rfl⟩ | ⟨rfl, rfl, hg⟩
    case inr =>
      have HGG := Lib.hid hg
      clear hg kn
      go_wp2
      go_ret
      exact ⟨rfl, HGG.out⟩
    case inl =>
      go_wp2
      go_loopw [7, 8] (fun e i wq => (e = .int .i64 0 ∧ i = .int .i64 (3) ∧ wq = wr) ∨ (e = .int .i64 0 ∧ i = .int .i64 (2) ∧ wq = wr) ∨ (e = .int .i64 1 ∧ i = .int .i64 (1) ∧ wq = wr) ∨ (e = .int .i64 3 ∧ i = .int .i64 (0) ∧ wq = wr) ∨ (e = .int .i64 6 ∧ i = .int .i64 (-1) ∧ wq = wr)) (fun _ i _ => (1 + intOf i).toNat)
      case atStart => exact .inl ⟨rfl, rfl, rfl⟩
      case round =>
        rcases hrel with ⟨rfl, rfl, rfl⟩ | ⟨rfl, rfl, rfl⟩ | ⟨rfl, rfl, rfl⟩ | ⟨rfl, rfl, rfl⟩ | ⟨rfl, rfl, rfl⟩
        · obtain ⟨cc, -⟩ := HX.out.2 3 0 rfl
          go_wp2
          go_roundw
          case rel => exact .inr (.inl ⟨rfl, rfl, trivial⟩)
          case measure => simp [intOf]
        · obtain ⟨cc, -⟩ := HX.out.2 2 1 rfl
          go_wp2
          go_roundw
          case rel => exact .inr (.inr (.inl ⟨rfl, rfl, trivial⟩))
          case measure => simp [intOf]
        · obtain ⟨cc, -⟩ := HX.out.2 1 0 rfl
          go_wp2
          go_roundw
          case rel => exact .inr (.inr (.inr (.inl ⟨rfl, rfl, trivial⟩)))
          case measure => simp [intOf]
        · obtain ⟨cc, -⟩ := HX.out.2 0 1 rfl
          go_wp2
          go_roundw
          case rel => exact .inr (.inr (.inr (.inr (⟨rfl, rfl, trivial⟩))))
          case measure => simp [intOf]
        · go_wp2_with fail
          refine (rot4_any _ _ _ _ _ [(1 : Int), (0 : Int), (1 : Int), (0 : Int)] _ HX.out (by simp) (by omega)).mono ?_
          rintro e w2 ⟨rfl, hg2, -⟩
          have HG2 := Lib.hid ((G1.of (g := g) HG.out).trans hg2)
          have k2 := (hg2.cell _ 0 (cell_ltH kn) (by simp; omega)).trans kn
          clear hg2
          go_wp2
          go_roundw
          case rel => exact .inr ⟨rfl, rfl, HG2.out⟩
          case measure => simp [intOf]
set_option maxRecDepth 100000 in
set_option maxHeartbeats 16000000 in
theorem pos4_7 (g c : Nat) (w : World) (hx : IB g (gC 4 7) w) : Calls Tryd.prog 19 #[.agg #[.int .i64 1], .slice (some ⟨g, 0, none⟩) 4 c] w fun e w' => e = .returned (.int .i64 7) ∧ G1 g w w' := by
  have hx' : IB g [(0 : Int), (0 : Int), (1 : Int), (0 : Int)] w := IB.cast hx (show gC 4 7 = [(0 : Int), (0 : Int), (1 : Int), (0 : Int)] by kernel_rfl)
  have HX := Lib.hid (IB.up _ _ hx' ((Grow.refl w).alloc (.cells #[.int .i64 1] 40)))
  have HG := Lib.hid ((Grow.refl w).alloc (.cells #[.int .i64 1] 40))
  have kn : (w.alloc (.cells #[.int .i64 1] 40)).cell? ⟨w.heap.size, 0, none⟩ = some (.int .i64 1) := by go_simp
  have hgl := hx.1
  clear hx hx'
  go_enter Tryd.func19, Tryd.ntmps19
  go_wp2
  generalize w.alloc (.cells #[.int .i64 1] 40) = W0 at *
  go_loopw [5, 6] (fun d n wr => (d = .int .i64 0 ∧ n = .int .i64 0 ∧ wr = W0) ∨ (d = .int .i64 7 ∧ n = .int .i64 (-1) ∧ G1 g w wr)) (fun _ n _ => (1 + intOf n).toNat)
  case atStart => exact .inl ⟨rfl, rfl, rfl⟩
  case round =>
    rcases hrel with ⟨rfl, rfl, rfl⟩ | ⟨rfl, rfl, hg⟩
    case inr =>
      have HGG := Lib.hid hg
      clear hg kn
      go_wp2
      go_ret
      exact ⟨rfl, HGG.out⟩
    case inl =>
      go_wp2
      go_loopw [7, 8] (fun e i wq => (e = .int .i64 0 ∧ i = .int .i64 (3) ∧ wq = wr) ∨ (e = .int .i64 0 ∧ i = .int .i64 (2) ∧ wq = wr) ∨ (e = .int .i64 1 ∧ i = .int .i64 (1) ∧ wq = wr) ∨ (e = .int .i64 3 ∧ i = .int .i64 (0) ∧ wq = wr) ∨ (e = .int .i64 7 ∧ i = .int .i64 (-1) ∧ wq = wr)) (fun _ i _ => (1 + intOf i).toNat)
      case atStart => exact .inl ⟨rfl, rfl, rfl⟩
      case round =>
        rcases hrel with ⟨rfl, rfl, rfl⟩ | ⟨rfl, rfl, rfl⟩ | ⟨rfl, rfl, rfl⟩ | ⟨rfl, rfl, rfl⟩ | ⟨rfl, rfl, rfl⟩
        · obtain ⟨cc, -⟩ := HX.out.2 3 0 rfl
          go_wp2
          go_roundw
          case rel => exact .inr (.inl ⟨rfl, rfl, trivial⟩)
          case measure => simp [intOf]
        · obtain ⟨cc, -⟩ := HX.out.2 2 1 rfl
          go_wp2
          go_roundw
          case rel => exact .inr (.inr (.inl ⟨rfl, rfl, trivial⟩))
          case measure => simp [intOf]
        · obtain ⟨cc, -⟩ := HX.out.2 1 0 rfl
          go_wp2
          go_roundw
          case rel => exact .inr (.inr (.inr (.inl ⟨rfl, rfl, trivial⟩)))
          case measure => simp [intOf]
        · obtain ⟨cc, -⟩ := HX.out.2 0 0 rfl
          go_wp2
          go_roundw
          case rel => exact .inr (.inr (.inr (.inr (⟨rfl, rfl, trivial⟩))))
          case measure => simp [intOf]
        · go_wp2_with fail
          refine (rot4_any _ _ _ _ _ [(0 : Int), (0 : Int), (1 : Int), (0 : Int)] _ HX.out (by simp) (by omega)).mono ?_
          rintro e w2 ⟨rfl, hg2, -⟩
          have HG2 := Lib.hid ((G1.of (g := g) HG.out).trans hg2)
          have k2 := (hg2.cell _ 0 (cell_ltH kn) (by simp; omega)).trans kn
          clear hg2
          go_wp2
          go_roundw
          case rel => exact .inr ⟨rfl, rfl, HG2.out⟩
          case measure => simp [intOf]
set_option maxRecDepth 100000 in
set_option maxHeartbeats 16000000 in
theorem pos4_8 (g c : Nat) (w : World) (hx : IB g (gC 4 8) w) : Calls Tryd.prog 19 #[.agg #[.int .i64 1], .slice (some ⟨g, 0, none⟩) 4 c] w fun e w' => e = .returned (.int .i64 8) ∧ G1 g w w' := by
  have hx' : IB g [(0 : Int), (0 : Int), (1 : Int), (1 : Int)] w := IB.cast hx (show gC 4 8 = [(0 : Int), (0 : Int), (1 : Int), (1 : Int)] by kernel_rfl)
  have HX := Lib.hid (IB.up _ _ hx' ((Grow.refl w).alloc (.cells #[.int .i64 1] 40)))
  have HG := Lib.hid ((Grow.refl w).alloc (.cells #[.int .i64 1] 40))
  have kn : (w.alloc (.cells #[.int .i64 1] 40)).cell? ⟨w.heap.size, 0, none⟩ = some (.int .i64 1) := by go_simp
  have hgl := hx.1
  clear hx hx'
  go_enter Tryd.func19, Tryd.ntmps19
  go_wp2
  generalize w.alloc (.cells #[.int .i64 1] 40) = W0 at *
  go_loopw [5, 6] (fun d n wr => (d = .int .i64 0 ∧ n = .int .i64 0 ∧ wr = W0) ∨ (d = .int .i64 8 ∧ n = .int .i64 (-1) ∧ G1 g w wr)) (fun _ n _ => (1 + intOf n).toNat)
  case atStart => exact .inl ⟨rfl, rfl, rfl⟩
  case round =>
    rcases hrel with ⟨rfl, rfl, rfl⟩ | ⟨rfl, rfl, hg⟩
    case inr =>
      have HGG := Lib.hid hg
      clear hg kn
      go_wp2
      go_ret
      exact ⟨rfl, HGG.out⟩
    case inl =>
      go_wp2
      go_loopw [7, 8] (fun e i wq => (e = .int .i64 0 ∧ i = .int .i64 (3) ∧ wq = wr) ∨ (e = .int .i64 1 ∧ i = .int .i64 (2) ∧ wq = wr) ∨ (e = .int .i64 2 ∧ i = .int .i64 (1) ∧ wq = wr) ∨ (e = .int .i64 4 ∧ i = .int .i64 (0) ∧ wq = wr) ∨ (e = .int .i64 8 ∧ i = .int .i64 (-1) ∧ wq = wr)) (fun _ i _ => (1 + intOf i).toNat)
      case atStart => exact .inl ⟨rfl, rfl, rfl⟩
      case round =>
        rcases hrel with ⟨rfl, rfl, rfl⟩ | ⟨rfl, rfl, rfl⟩ | ⟨rfl, rfl, rfl⟩ | ⟨rfl, rfl, rfl⟩ | ⟨rfl, rfl, rfl⟩
        · obtain ⟨cc, -⟩ := HX.out.2 3 1 rfl
          go_wp2
          go_roundw
          case rel => exact .inr (.inl ⟨rfl, rfl, trivial⟩)
          case measure => simp [intOf]
        · obtain ⟨cc, -⟩ := HX.out.2 2 1 rfl
          go_wp2
          go_roundw
          case rel => exact .inr (.inr (.inl ⟨rfl, rfl, trivial⟩))
          case measure => simp [intOf]
        · obtain ⟨cc, -⟩ := HX.out.2 1 0 rfl
          go_wp2
          go_roundw
          case rel => exact .inr (.inr (.inr (.inl ⟨rfl, rfl, trivial⟩)))
          case measure => simp [intOf]
        · obtain ⟨cc, -⟩ := HX.out.2 0 0 rfl
          go_wp2
          go_roundw
          case rel => exact .inr (.inr (.inr (.inr (⟨rfl, rfl, trivial⟩))))
          case measure => simp [intOf]
        · go_wp2_with fail
          refine (rot4_any _ _ _ _ _ [(0 : Int), (0 : Int), (1 : Int), (1 : Int)] _ HX.out (by simp) (by omega)).mono ?_
          rintro e w2 ⟨rfl, hg2, -⟩
          have HG2 := Lib.hid ((G1.of (g := g) HG.out).trans hg2)
          have k2 := (hg2.cell _ 0 (cell_ltH kn) (by simp; omega)).trans kn
          clear hg2
          go_wp2
          go_roundw
          case rel => exact .inr ⟨rfl, rfl, HG2.out⟩
          case measure => simp [intOf]
set_option maxRecDepth 100000 in
set_option maxHeartbeats 16000000 in
theorem pos4_9 (g c : Nat) (w : World) (hx : IB g (gC 4 9) w) : Calls Tryd.prog 19 #[.agg #[.int .i64 1], .slice (some ⟨g, 0, none⟩) 4 c] w fun e w' => e = .returned (.int .i64 9) ∧ G1 g w w' := by
  have hx' : IB g [(1 : Int), (0 : Int), (1 : Int), (1 : Int)] w := IB.cast hx (show gC 4 9 = [(1 : Int), (0 : Int), (1 : Int), (1 : Int)] by kernel_rfl)
  have HX := Lib.hid (IB.up _ _ hx' ((Grow.refl w).alloc (.cells #[.int .i64 1] 40)))
  have HG := Lib.hid ((Grow.refl w).alloc (.cells #[.int .i64 1] 40))
  have kn : (w.alloc (.cells #[.int .i64 1] 40)).cell? ⟨w.heap.size, 0, none⟩ = some (.int .i64 1) := by go_simp
  have hgl := hx.1
  clear hx hx'
  go_enter Tryd.func19, Tryd.ntmps19
  go_wp2
  generalize w.alloc (.cells #[.int .i64 1] 40) = W0 at *
  go_loopw [5, 6] (fun d n wr => (d = .int .i64 0 ∧ n = .int .i64 0 ∧ wr = W0) ∨ (d = .int .i64 9 ∧ n = .int .i64 (-1) ∧ G1 g w wr)) (fun _ n _ => (1 + intOf n).toNat)
  case atStart => exact .inl ⟨rfl, rfl, rfl⟩
  case round =>
    rcases hrel with ⟨rfl, rfl, rfl⟩ | ⟨rfl, rfl, hg⟩
    case inr =>
      have HGG := Lib.hid hg
      clear hg kn
      go_wp2
      go_ret
      exact ⟨rfl, HGG.out⟩
    case inl =>
      go_wp2
      go_loopw [7, 8] (fun e i wq => (e = .int .i64 0 ∧ i = .int .i64 (3) ∧ wq = wr) ∨ (e = .int .i64 1 ∧ i = .int .i64 (2) ∧ wq = wr) ∨ (e = .int .i64 2 ∧ i = .int .i64 (1) ∧ wq = wr) ∨ (e = .int .i64 4 ∧ i = .int .i64 (0) ∧ wq = wr) ∨ (e = .int .i64 9 ∧ i = .int .i64 (-1) ∧ wq = wr)) (fun _ i _ => (1 + intOf i).toNat)
      case atStart => exact .inl ⟨rfl, rfl, rfl⟩
      case round =>
        rcases hrel with ⟨rfl, rfl, rfl⟩ | ⟨rfl, rfl, rfl⟩ | ⟨rfl, rfl, rfl⟩ | ⟨rfl, rfl, rfl⟩ | ⟨rfl, rfl, rfl⟩
        · obtain ⟨cc, -⟩ := HX.out.2 3 1 rfl
          go_wp2
          go_roundw
          case rel => exact .inr (.inl ⟨rfl, rfl, trivial⟩)
          case measure => simp [intOf]
        · obtain ⟨cc, -⟩ := HX.out.2 2 1 rfl
          go_wp2
          go_roundw
          case rel => exact .inr (.inr (.inl ⟨rfl, rfl, trivial⟩))
          case measure => simp [intOf]
        · obtain ⟨cc, -⟩ := HX.out.2 1 0 rfl
          go_wp2
          go_roundw
          case rel => exact .inr (.inr (.inr (.inl ⟨rfl, rfl, trivial⟩)))
          case measure => simp [intOf]
        · obtain ⟨cc, -⟩ := HX.out.2 0 1 rfl
          go_wp2
          go_roundw
          case rel => exact .inr (.inr (.inr (.inr (⟨rfl, rfl, trivial⟩))))
          case measure => simp [intOf]
        · go_wp2_with fail
          refine (rot4_any _ _ _ _ _ [(1 : Int), (0 : Int), (1 : Int), (1 : Int)] _ HX.out (by simp) (by omega)).mono ?_
          rintro e w2 ⟨rfl, hg2, -⟩
          have HG2 := Lib.hid ((G1.of (g := g) HG.out).trans hg2)
          have k2 := (hg2.cell _ 0 (cell_ltH kn) (by simp; omega)).trans kn
          clear hg2
          go_wp2
          go_roundw
          case rel => exact .inr ⟨rfl, rfl, HG2.out⟩
          case measure => simp [intOf]
set_option maxRecDepth 100000 in
set_option maxHeartbeats 16000000 in
theorem pos4_10 (g c : Nat) (w : World) (hx : IB g (gC 4 10) w) : Calls Tryd.prog 19 #[.agg #[.int .i64 1], .slice (some ⟨g, 0, none⟩) 4 c] w fun e w' => e = .returned (.int .i64 10) ∧ G1 g w w' := by
  have hx' : IB g [(1 : Int), (1 : Int), (1 : Int), (1 : Int)] w := IB.cast hx (show gC 4 10 = [(1 : Int), (1 : Int), (1 : Int), (1 : Int)] by kernel_rfl)
  have HX := Lib.hid (IB.up _ _ hx' ((Grow.refl w).alloc (.cells #[.int .i64 1] 40)))
  have HG := Lib.hid ((Grow.refl w).alloc (.cells #[.int .i64 1] 40))
  have kn : (w.alloc (.cells #[.int .i64 1] 40)).cell? ⟨w.heap.size, 0, none⟩ = some (.int .i64 1) := by go_simp
  have hgl := hx.1
  clear hx hx'
  go_enter Tryd.func19, Tryd.ntmps19
  go_wp2
  generalize w.alloc (.cells #[.int .i64 1] 40) = W0 at *
  go_loopw [5, 6] (fun d n wr => (d = .int .i64 0 ∧ n = .int .i64 0 ∧ wr = W0) ∨ (d = .int .i64 10 ∧ n = .int .i64 (-1) ∧ G1 g w wr)) (fun _ n _ => (1 + intOf n).toNat)
  case atStart => exact .inl ⟨rfl, rfl, rfl⟩
  case round =>
    rcases hrel with ⟨rfl, rfl, rfl⟩ | ⟨rfl, rfl, hg⟩
    case inr =>
      have HGG := Lib.hid hg
      clear hg kn
      go_wp2
      go_ret
      exact ⟨rfl, HGG.out⟩
    case inl =>
      go_wp2
      go_loopw [7, 8] (fun e i wq => (e = .int .i64 0 ∧ i = .int .i64 (3) ∧ wq = wr) ∨ (e = .int .i64 1 ∧ i = .int .i64 (2) ∧ wq = wr) ∨ (e = .int .i64 2 ∧ i = .int .i64 (1) ∧ wq = wr) ∨ (e = .int .i64 5 ∧ i = .int .i64 (0) ∧ wq = wr) ∨ (e = .int .i64 10 ∧ i = .int .i64 (-1) ∧ wq = wr)) (fun _ i _ => (1 + intOf i).toNat)
      case atStart => exact .inl ⟨rfl, rfl, rfl⟩
      case round =>
        rcases hrel with ⟨rfl, rfl, rfl⟩ | ⟨rfl, rfl, rfl⟩ | ⟨rfl, rfl, rfl⟩ | ⟨rfl, rfl, rfl⟩ | ⟨rfl, rfl, rfl⟩
        · obtain ⟨cc, -⟩ := HX.out.2 3 1 rfl
          go_wp2
          go_roundw
          case rel => exact .inr (.inl ⟨rfl, rfl, trivial⟩)
          case measure => simp [intOf]
        · obtain ⟨cc, -⟩ := HX.out.2 2 1 rfl
          go_wp2
          go_roundw
          case rel => exact .inr (.inr (.inl ⟨rfl, rfl, trivial⟩))
          case measure => simp [intOf]
        · obtain ⟨cc, -⟩ := HX.out.2 1 1 rfl
          go_wp2
          go_roundw
          case rel => exact .inr (.inr (.inr (.inl ⟨rfl, rfl, trivial⟩)))
          case measure => simp [intOf]
        · obtain ⟨cc, -⟩ := HX.out.2 0 1 rfl
          go_wp2
          go_roundw
          case rel => exact .inr (.inr (.inr (.inr (⟨rfl, rfl, trivial⟩))))
          case measure => simp [intOf]
        · go_wp2_with fail
          refine (rot4_any _ _ _ _ _ [(1 : Int), (1 : Int), (1 : Int), (1 : Int)] _ HX.out (by simp) (by omega)).mono ?_
          rintro e w2 ⟨rfl, hg2, -⟩
          have HG2 := Lib.hid ((G1.of (g := g) HG.out).trans hg2)
          have k2 := (hg2.cell _ 0 (cell_ltH kn) (by simp; omega)).trans kn
          clear hg2
          go_wp2
          go_roundw
          case rel => exact .inr ⟨rfl, rfl, HG2.out⟩
          case measure => simp [intOf]
set_option maxRecDepth 100000 in
set_option maxHeartbeats 16000000 in
theorem pos4_11 (g c : Nat) (w : World) (hx : IB g (gC 4 11) w) : Calls Tryd.prog 19 #[.agg #[.int .i64 1], .slice (some ⟨g, 0, none⟩) 4 c] w fun e w' => e = .returned (.int .i64 11) ∧ G1 g w w' := by
  have hx' : IB g [(0 : Int), (1 : Int), (1 : Int), (1 : Int)] w := IB.cast hx (show gC 4 11 = [(0 : Int), (1 : Int), (1 : Int), (1 : Int)] by kernel_rfl)
  have HX := Lib.hid (IB.up _ _ hx' ((Grow.refl w).alloc (.cells #[.int .i64 1] 40)))
  have HG := Lib.hid ((Grow.refl w).alloc (.cells #[.int .i64 1] 40))
  have kn : (w.alloc (.cells #[.int .i64 1] 40)).cell? ⟨w.heap.size, 0, none⟩ = some (.int .i64 1) := by go_simp
  have hgl := hx.1
  clear hx hx'
  go_enter Tryd.func19, Tryd.ntmps19
  go_wp2
  generalize w.alloc (.cells #[.int .i64 1] 40) = W0 at *
  go_loopw [5, 6] (fun d n wr => (d = .int .i64 0 ∧ n = .int .i64 0 ∧ wr = W0) ∨ (d = .int .i64 11 ∧ n = .int .i64 (-1) ∧ G1 g w wr)) (fun _ n _ => (1 + intOf n).toNat)
  case atStart => exact .inl ⟨rfl, rfl, rfl⟩
  case round =>
    rcases hrel with ⟨rfl, rfl, rfl⟩ | ⟨rfl, rfl, hg⟩
    case inr =>
      have HGG := Lib.hid hg
      clear hg kn
      go_wp2
      go_ret
      exact ⟨rfl, HGG.out⟩
    case inl =>
      go_wp2
      go_loopw [7, 8] (fun e i wq => (e = .int .i64 0 ∧ i = .int .i64 (3) ∧ wq = wr) ∨ (e = .int .i64 1 ∧ i = .int .i64 (2) ∧ wq = wr) ∨ (e = .int .i64 2 ∧ i = .int .i64 (1) ∧ wq = wr) ∨ (e = .int .i64 5 ∧ i = .int .i64 (0) ∧ wq = wr) ∨ (e = .int .i64 11 ∧ i = .int .i64 (-1) ∧ wq = wr)) (fun _ i _ => (1 + intOf i).toNat)
      case atStart => exact .inl ⟨rfl, rfl, rfl⟩
      case round =>
        rcases hrel with ⟨rfl, rfl, rfl⟩ | ⟨rfl, rfl, rfl⟩ | ⟨rfl, rfl, rfl⟩ | ⟨rfl, rfl, rfl⟩ | ⟨rfl, rfl, rfl⟩
        · obtain ⟨cc, -⟩ := HX.out.2 3 1 rfl
          go_wp2
          go_roundw
          case rel => exact .inr (.inl ⟨rfl, rfl, trivial⟩)
          case measure => simp [intOf]
        · obtain ⟨cc, -⟩ := HX.out.2 2 1 rfl
          go_wp2
          go_roundw
          case rel => exact .inr (.inr (.inl ⟨rfl, rfl, trivial⟩))
          case measure => simp [intOf]
        · obtain ⟨cc, -⟩ := HX.out.2 1 1 rfl
          go_wp2
          go_roundw
          case rel => exact .inr (.inr (.inr (.inl ⟨rfl, rfl, trivial⟩)))
          case measure => simp [intOf]
        · obtain ⟨cc, -⟩ := HX.out.2 0 0 rfl
          go_wp2
          go_roundw
          case rel => exact .inr (.inr (.inr (.inr (⟨rfl, rfl, trivial⟩))))
          case measure => simp [intOf]
        · go_wp2_with fail
          refine (rot4_any _ _ _ _ _ [(0 : Int), (1 : Int), (1 : Int), (1 : Int)] _ HX.out (by simp) (by omega)).mono ?_
          rintro e w2 ⟨rfl, hg2, -⟩
          have HG2 := Lib.hid ((G1.of (g := g) HG.out).trans hg2)
          have k2 := (hg2.cell _ 0 (cell_ltH kn) (by simp; omega)).trans kn
          clear hg2
          go_wp2
          go_roundw
          case rel => exact .inr ⟨rfl, rfl, HG2.out⟩
          case measure => simp [intOf]
set_option maxRecDepth 100000 in
set_option maxHeartbeats 16000000 in
theorem pos4_12 (g c : Nat) (w : World) (hx : IB g (gC 4 12) w) : Calls Tryd.prog 19 #[.agg #[.int .i64 1], .slice (some ⟨g, 0, none⟩) 4 c] w fun e w' => e = .returned (.int .i64 12) ∧ G1 g w w' := by
  have hx' : IB g [(0 : Int), (1 : Int), (0 : Int), (1 : Int)] w := IB.cast hx (show gC 4 12 = [(0 : Int), (1 : Int), (0 : Int), (1 : Int)] by kernel_rfl)
  have HX := Lib.hid (IB.up _ _ hx' ((Grow.refl w).alloc (.cells #[.int .i64 1] 40)))
  have HG := Lib.hid ((Grow.refl w).alloc (.cells #[.int .i64 1] 40))
  have kn : (w.alloc (.cells #[.int .i64 1] 40)).cell? ⟨w.heap.size, 0, none⟩ = some (.int .i64 1) := by go_simp
  have hgl := hx.1
  clear hx hx'
  go_enter Tryd.func19, Tryd.ntmps19
  go_wp2
  generalize w.alloc (.cells #[.int .i64 1] 40) = W0 at *
  go_loopw [5, 6] (fun d n wr => (d = .int .i64 0 ∧ n = .int .i64 0 ∧ wr = W0) ∨ (d = .int .i64 12 ∧ n = .int .i64 (-1) ∧ G1 g w wr)) (fun _ n _ => (1 + intOf n).toNat)
  case atStart => exact .inl ⟨rfl, rfl, rfl⟩
  case round =>
    rcases hrel with ⟨rfl, rfl, rfl⟩ | ⟨rfl, rfl, hg⟩
    case inr =>
      have HGG := Lib.hid hg
      clear hg kn
      go_wp2
      go_ret
      exact ⟨rfl, HGG.out⟩
    case inl =>
      go_wp2
      go_loopw [7, 8] (fun e i wq => (e = .int .i64 0 ∧ i = .int .i64 (3) ∧ wq = wr) ∨ (e = .int .i64 1 ∧ i = .int .i64 (2) ∧ wq = wr) ∨ (e = .int .i64 3 ∧ i = .int .i64 (1) ∧ wq = wr) ∨ (e = .int .i64 6 ∧ i = .int .i64 (0) ∧ wq = wr) ∨ (e = .int .i64 12 ∧ i = .int .i64 (-1) ∧ wq = wr)) (fun _ i _ => (1 + intOf i).toNat)
      case atStart => exact .inl ⟨rfl, rfl, rfl⟩
      case round =>
        rcases hrel with ⟨rfl, rfl, rfl⟩ | ⟨rfl, rfl, rfl⟩ | ⟨rfl, rfl, rfl⟩ | ⟨rfl, rfl, rfl⟩ | ⟨rfl, rfl, rfl⟩
        · obtain ⟨cc, -⟩ := HX.out.2 3 1 rfl
          go_wp2
          go_roundw
          case rel => exact .inr (.inl ⟨rfl, rfl, trivial⟩)
          case measure => simp [intOf]
        · obtain ⟨cc, -⟩ := HX.out.2 2 0 rfl
          go_wp2
          go_roundw
          case rel => exact .inr (.inr (.inl ⟨rfl, rfl, trivial⟩))
          case measure => simp [intOf]
        · obtain ⟨cc, -⟩ := HX.out.2 1 1 rfl
          go_wp2
          go_roundw
          case rel => exact .inr (.inr (.inr (.inl ⟨rfl, rfl, trivial⟩)))
          case measure => simp [intOf]
        · obtain ⟨cc, -⟩ := HX.out.2 0 0 rfl
          go_wp2
          go_roundw
          case rel => exact .inr (.inr (.inr (.inr (⟨rfl, rfl, trivial⟩))))
          case measure => simp [intOf]
        · go_wp2_with fail
          refine (rot4_any _ _ _ _ _ [(0 : Int), (1 : Int), (0 : Int), (1 : Int)] _ HX.out (by simp) (by omega)).mono ?_
          rintro e w2 ⟨rfl, hg2, -⟩
          have HG2 := Lib.hid ((G1.of (g := g) HG.out).trans hg2)
          have k2 := (hg2.cell _ 0 (cell_ltH kn) (by simp; omega)).trans kn
          clear hg2
          go_wp2
          go_roundw
          case rel => exact .inr ⟨rfl, rfl, HG2.out⟩
          case measure => simp [intOf]
set_option maxRecDepth 100000 in
set_option maxHeartbeats 16000000 in
theorem pos4_13 (g c : Nat) (w : World) (hx : IB g (gC 4 13) w) : Calls Tryd.prog 19 #[.agg #[.int .i64 1], .slice (some ⟨g, 0, none⟩) 4 c] w fun e w' => e = .returned (.int .i64 13) ∧ G1 g w w' := by
  have hx' : IB g [(1 : Int), (1 : Int), (0 : Int), (1 : Int)] w := IB.cast hx (show gC 4 13 = [(1 : Int), (1 : Int), (0 : Int), (1 : Int)] by kernel_rfl)
  have HX := Lib.hid (IB.up _ _ hx' ((Grow.refl w).alloc (.cells #[.int .i64 1] 40)))
  have HG := Lib.hid ((Grow.refl w).alloc (.cells #[.int .i64 1] 40))
  have kn : (w.alloc (.cells #[.int .i64 1] 40)).cell? ⟨w.heap.size, 0, none⟩ = some (.int .i64 1) := by go_simp
  have hgl := hx.1
  clear hx hx'
  go_enter Tryd.func19, Tryd.ntmps19
  go_wp2
  generalize w.alloc (.cells #[.int .i64 1] 40) = W0 at *
  go_loopw [5, 6] (fun d n wr => (d = .int .i64 0 ∧ n = .int .i64 0 ∧ wr = W0) ∨ (d = .int .i64 13 ∧ n = .int .i64 (-1) ∧ G1 g w wr)) (fun _ n _ => (1 + intOf n).toNat)
  case atStart => exact .inl ⟨rfl, rfl, rfl⟩
  case round =>
    rcases hrel with ⟨rfl, rfl, rfl⟩ | ⟨rfl, rfl, hg⟩
    case inr =>
      have HGG := Lib.hid hg
      clear hg kn
      go_wp2
      go_ret
      exact ⟨rfl, HGG.out⟩
    case inl =>
      go_wp2
      go_loopw [7, 8] (fun e i wq => (e = .int .i64 0 ∧ i = .int .i64 (3) ∧ wq = wr) ∨ (e = .int .i64 1 ∧ i = .int .i64 (2) ∧ wq = wr) ∨ (e = .int .i64 3 ∧ i = .int .i64 (1) ∧ wq = wr) ∨ (e = .int .i64 6 ∧ i = .int .i64 (0) ∧ wq = wr) ∨ (e = .int .i64 13 ∧ i = .int .i64 (-1) ∧ wq = wr)) (fun _ i _ => (1 + intOf i).toNat)
      case atStart => exact .inl ⟨rfl, rfl, rfl⟩
      case round =>
        rcases hrel with ⟨rfl, rfl, rfl⟩ | ⟨rfl, rfl, rfl⟩ | ⟨rfl, rfl, rfl⟩ | ⟨rfl, rfl, rfl⟩ | ⟨rfl, rfl, rfl⟩
        · obtain ⟨cc, -⟩ := HX.out.2 3 1 rfl
          go_wp2
          go_roundw
          case rel => exact .inr (.inl ⟨rfl, rfl, trivial⟩)
          case measure => simp [intOf]
        · obtain ⟨cc, -⟩ := HX.out.2 2 0 rfl
          go_wp2
          go_roundw
          case rel => exact .inr (.inr (.inl ⟨rfl, rfl, trivial⟩))
          case measure => simp [intOf]
        · obtain ⟨cc, -⟩ := HX.out.2 1 1 rfl
          go_wp2
          go_roundw
          case rel => exact .inr (.inr (.inr (.inl ⟨rfl, rfl, trivial⟩)))
          case measure => simp [intOf]
        · obtain ⟨cc, -⟩ := HX.out.2 0 1 rfl
          go_wp2
          go_roundw
          case rel => exact .inr (.inr (.inr (.inr (⟨rfl, rfl, trivial⟩))))
          case measure => simp [intOf]
        · go_wp2_with fail
          refine (rot4_any _ _ _ _ _ [(1 : Int), (1 : Int), (0 : Int), (1 : Int)] _ HX.out (by simp) (by omega)).mono ?_
          rintro e w2 ⟨rfl, hg2, -⟩
          have HG2 := Lib.hid ((G1.of (g := g) HG.out).trans hg2)
          have k2 := (hg2.cell _ 0 (cell_ltH kn) (by simp; omega)).trans kn
          clear hg2
          go_wp2
          go_roundw
          case rel => exact .inr ⟨rfl, rfl, HG2.out⟩
          case measure => simp [intOf]
set_option maxRecDepth 100000 in
set_option maxHeartbeats 16000000 in
theorem pos4_14 (g c : Nat) (w : World) (hx : IB g (gC 4 14) w) : Calls Tryd.prog 19 #[.agg #[.int .i64 1], .slice (some ⟨g, 0, none⟩) 4 c] w fun e w' => e = .returned (.int .i64 14) ∧ G1 g w w' := by
  have hx' : IB g [(1 : Int), (0 : Int), (0 : Int), (1 : Int)] w := IB.cast hx (show gC 4 14 = [(1 : Int), (0 : Int), (0 : Int), (1 : Int)] by kernel_rfl)
  have HX := Lib.hid (IB.up _ _ hx' ((Grow.refl w).alloc (.cells #[.int .i64 1] 40)))
  have HG := Lib.hid ((Grow.refl w).alloc (.cells #[.int .i64 1] 40))
  have kn : (w.alloc (.cells #[.int .i64 1] 40)).cell? ⟨w.heap.size, 0, none⟩ = some (.int .i64 1) := by go_simp
  have hgl := hx.1
  clear hx hx'
  go_enter Tryd.func19, Tryd.ntmps19
  go_wp2
  generalize w.alloc (.cells #[.int .i64 1] 40) = W0 at *
  go_loopw [5, 6] (fun d n wr => (d = .int .i64 0 ∧ n = .int .i64 0 ∧ wr = W0) ∨ (d = .int .i64 14 ∧ n = .int .i64 (-1) ∧ G1 g w wr)) (fun _ n _ => (1 + intOf n).toNat)
  case atStart => exact .inl ⟨rfl, rfl, rfl⟩
  case round =>
    rcases hrel with ⟨rfl, rfl, rfl⟩ | ⟨rfl, rfl, hg⟩
    case inr =>
      have HGG := Lib.hid hg
      clear hg kn
      go_wp2
      go_ret
      exact ⟨rfl, HGG.out⟩
    case inl =>
      go_wp2
      go_loopw [7, 8] (fun e i wq => (e = .int .i64 0 ∧ i = .int .i64 (3) ∧ wq = wr) ∨ (e = .int .i64 1 ∧ i = .int .i64 (2) ∧ wq = wr) ∨ (e = .int .i64 3 ∧ i = .int .i64 (1) ∧ wq = wr) ∨ (e = .int .i64 7 ∧ i = .int .i64 (0) ∧ wq = wr) ∨ (e = .int .i64 14 ∧ i = .int .i64 (-1) ∧ wq = wr)) (fun _ i _ => (1 + intOf i).toNat)
      case atStart => exact .inl ⟨rfl, rfl, rfl⟩
      case round =>
        rcases hrel with ⟨rfl, rfl, rfl⟩ | ⟨rfl, rfl, rfl⟩ | ⟨rfl, rfl, rfl⟩ | ⟨rfl, rfl, rfl⟩ | ⟨rfl, rfl, rfl⟩
        · obtain ⟨cc, -⟩ := HX.out.2 3 1 rfl
          go_wp2
          go_roundw
          case rel => exact .inr (.inl ⟨rfl, rfl, trivial⟩)
          case measure => simp [intOf]
        · obtain ⟨cc, -⟩ := HX.out.2 2 0 rfl
          go_wp2
          go_roundw
          case rel => exact .inr (.inr (.inl ⟨rfl, rfl, trivial⟩))
          case measure => simp [intOf]
        · obtain ⟨cc, -⟩ := HX.out.2 1 0 rfl
          go_wp2
          go_roundw
          case rel => exact .inr (.inr (.inr (.inl ⟨rfl, rfl, trivial⟩)))
          case measure => simp [intOf]
        · obtain ⟨cc, -⟩ := HX.out.2 0 1 rfl
          go_wp2
          go_roundw
          case rel => exact .inr (.inr (.inr (.inr (⟨rfl, rfl, trivial⟩))))
          case measure => simp [intOf]
        · go_wp2_with fail
          refine (rot4_any _ _ _ _ _ [(1 : Int), (0 : Int), (0 : Int), (1 : Int)] _ HX.out (by simp) (by omega)).mono ?_
          rintro e w2 ⟨rfl, hg2, -⟩
          have HG2 := Lib.hid ((G1.of (g := g) HG.out).trans hg2)
          have k2 := (hg2.cell _ 0 (cell_ltH kn) (by simp; omega)).trans kn
          clear hg2
          go_wp2
          go_roundw
          case rel => exact .inr ⟨rfl, rfl, HG2.out⟩
          case measure => simp [intOf]
set_option maxRecDepth 100000 in
set_option maxHeartbeats 16000000 in
theorem pos4_15 (g c : Nat) (w : World) (hx : IB g (gC 4 15) w) : Calls Tryd.prog 19 #[.agg #[.int .i64 1], .slice (some ⟨g, 0, none⟩) 4 c] w fun e w' => e = .returned (.int .i64 15) ∧ G1 g w w' := by
  have hx' : IB g [(0 : Int), (0 : Int), (0 : Int), (1 : Int)] w := IB.cast hx (show gC 4 15 = [(0 : Int), (0 : Int), (0 : Int), (1 : Int)] by kernel_rfl)
  have HX := Lib.hid (IB.up _ _ hx' ((Grow.refl w).alloc (.cells #[.int .i64 1] 40)))
  have HG := Lib.hid ((Grow.refl w).alloc (.cells #[.int .i64 1] 40))
  have kn : (w.alloc (.cells #[.int .i64 1] 40)).cell? ⟨w.heap.size, 0, none⟩ = some (.int .i64 1) := by go_simp
  have hgl := hx.1
  clear hx hx'
  go_enter Tryd.func19, Tryd.ntmps19
  go_wp2
  generalize w.alloc (.cells #[.int .i64 1] 40) = W0 at *
  go_loopw [5, 6] (fun d n wr => (d = .int .i64 0 ∧ n = .int .i64 0 ∧ wr = W0) ∨ (d = .int .i64 15 ∧ n = .int .i64 (-1) ∧ G1 g w wr)) (fun _ n _ => (1 + intOf n).toNat)
  case atStart => exact .inl ⟨rfl, rfl, rfl⟩
  case round =>
    rcases hrel with ⟨rfl, rfl, rfl⟩ | ⟨rfl, rfl, hg⟩
    case inr =>
      have HGG := Lib.hid hg
      clear hg kn
      go_wp2
      go_ret
      exact ⟨rfl, HGG.out⟩
    case inl =>
      go_wp2
      go_loopw [7, 8] (fun e i wq => (e = .int .i64 0 ∧ i = .int .i64 (3) ∧ wq = wr) ∨ (e = .int .i64 1 ∧ i = .int .i64 (2) ∧ wq = wr) ∨ (e = .int .i64 3 ∧ i = .int .i64 (1) ∧ wq = wr) ∨ (e = .int .i64 7 ∧ i = .int .i64 (0) ∧ wq = wr) ∨ (e = .int .i64 15 ∧ i = .int .i64 (-1) ∧ wq = wr)) (fun _ i _ => (1 + intOf i).toNat)
      case atStart => exact .inl ⟨rfl, rfl, rfl⟩
      case round =>
        rcases hrel with ⟨rfl, rfl, rfl⟩ | ⟨rfl, rfl, rfl⟩ | ⟨rfl, rfl, rfl⟩ | ⟨rfl, rfl, rfl⟩ | ⟨rfl, rfl, rfl⟩
        · obtain ⟨cc, -⟩ := HX.out.2 3 1 rfl
          go_wp2
          go_roundw
          case rel => exact .inr (.inl ⟨rfl, rfl, trivial⟩)
          case measure => simp [intOf]
        · obtain ⟨cc, -⟩ := HX.out.2 2 0 rfl
          go_wp2
          go_roundw
          case rel => exact .inr (.inr (.inl ⟨rfl, rfl, trivial⟩))
          case measure => simp [intOf]
        · obtain ⟨cc, -⟩ := HX.out.2 1 0 rfl
          go_wp2
          go_roundw
          case rel => exact .inr (.inr (.inr (.inl ⟨rfl, rfl, trivial⟩)))
          case measure => simp [intOf]
        · obtain ⟨cc, -⟩ := HX.out.2 0 0 rfl
          go_wp2
          go_roundw
          case rel => exact .inr (.inr (.inr (.inr (⟨rfl, rfl, trivial⟩))))
          case measure => simp [intOf]
        · go_wp2_with fail
          refine (rot4_any _ _ _ _ _ [(0 : Int), (0 : Int), (0 : Int), (1 : Int)] _ HX.out (by simp) (by omega)).mono ?_
          rintro e w2 ⟨rfl, hg2, -⟩
          have HG2 := Lib.hid ((G1.of (g := g) HG.out).trans hg2)
          have k2 := (hg2.cell _ 0 (cell_ltH kn) (by simp; omega)).trans kn
          clear hg2
          go_wp2
          go_roundw
          case rel => exact .inr ⟨rfl, rfl, HG2.out⟩
          case measure => simp [intOf]
end Go.Proofs.YtkcpjndelcfmhaaDoor
