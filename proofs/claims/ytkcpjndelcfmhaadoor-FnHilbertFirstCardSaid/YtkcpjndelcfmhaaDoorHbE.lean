import Derived.Test.YtkcpjndelcfmhaaDoorHbC
import Derived.Deep.OwnRows
import Derived.BigRegion
namespace Go.Proofs.YtkcpjndelcfmhaaDoor
open Go.ChangeShapes Go.WideShapes Go.ChangeAt Go.RowKit Go.GrowR
set_option linter.unusedVariables false
set_option linter.unusedSimpArgs false
set_option maxRecDepth 100000 in
set_option maxHeartbeats 16000000 in
theorem coord4_0 (w : World) : Calls Tryd.prog 14 #[.agg #[.int .i64 1], .slice none 0 0, .int .i64 0] w (CoQ 4 0 w) := by
  have hmk : ∀ w : World, (Instr.makeSlice 22 (.int .i64 4) (.int .i64 4)).run Tryd.prog w = .ok (.slice (some ⟨w.heap.size, 0, none⟩) 4 4) (w.alloc (.cells (madeCells #[.int .i64 0] 4) 3)) := fun w => run_make_row' (P := Tryd.prog) 22 3 (.int .i64 0) 8 undI infoI rfl .i64 .i64 4 (by omega) (by omega) w
  have heq : ∀ w, (binOp .eql 22 (.slice none 0 0) (.slice none 0 0)).run Tryd.prog w = .ok (.bool true) w := fun w => by simp only [binOp]; simp [run_equal_slice_nil (P := Tryd.prog) w 22 3 none 0 0 undI]
  have HG0 := Lib.hid (((Grow.refl w).alloc (.cells #[.int .i64 1] 40)).alloc (.cells (madeCells #[.int .i64 0] 4) 3))
  have HI0 := Lib.hid (IB.made (w.alloc (.cells #[.int .i64 1] 40)) 4)
  rw [show (w.alloc (.cells #[.int .i64 1] 40)).heap.size = w.heap.size + 1 by simp] at HI0
  have kn : ((w.alloc (.cells #[.int .i64 1] 40)).alloc (.cells (madeCells #[.int .i64 0] 4) 3)).cell? ⟨w.heap.size, 0, none⟩ = some (.int .i64 1) := by go_simp
  go_enter Tryd.func14, Tryd.ntmps14
  go_wp2
  clear hmk heq
  generalize (w.alloc (.cells #[.int .i64 1] 40)).alloc (.cells (madeCells #[.int .i64 0] 4) 3) = W0 at *
  have hlq := cell_ltH kn
  go_loopw [2, 8] (fun pos n wr => (n = .int .i64 0 ∧ pos = .int .i64 0 ∧ wr = W0) ∨ (n = .int .i64 1 ∧ IB (w.heap.size + 1) (gC 4 0) wr ∧ Grow w wr ∧ wr.cell? ⟨w.heap.size, 0, none⟩ = some (.int .i64 1))) (fun _ n _ => (1 - intOf n).toNat)
  case atStart => exact .inl ⟨rfl, rfl, rfl⟩
  case round =>
    rcases hrel with ⟨rfl, rfl, rfl⟩ | ⟨rfl, hib, hg, hkn⟩
    case inr =>
      have HI := Lib.hid hib; have HG := Lib.hid hg
      clear hib hg kn
      go_wp2
      go_ret
      exact ⟨_, rfl, HG.out, HI.out⟩
    case inl =>
      go_wp2
      refine wp_normal ?_
      go_region_law (go_simp; go_at_call 22; refine (rot4_zero _ _ _ _ true _ (IB.up _ _ HI0.out (by repeat (first | exact Grow.refl _ | refine Grow.drew ?_ | refine Grow.alloc ?_ _))) (by simp) (by omega)).mono ?_; rintro e w2 h2; obtain ⟨rfl, hg2, hz2⟩ := TuQ.zero h2; have HZ := Lib.hid hz2; have HG2 := Lib.hid (GX.grow (w := w) hg2 (HG0.out.trans (by repeat (first | exact Grow.refl _ | refine Grow.drew ?_ | refine Grow.alloc ?_ _))) (fun k hk => by omega)); have k2 := (hg2.cell _ 0 (by simpa using hlq) (by simp)).trans kn; clear h2 hg2 hz2)
      have HZ0 := Lib.hid (IB.cast HZ.out (show List.replicate 4 (0 : Int) = [(0 : Int), (0 : Int), (0 : Int), (0 : Int)] from rfl))
      have HK2 := Lib.hid k2
      clear k2
      go_wp2
      go_loopw [10, 11] (fun i e wq => (i = .int .i64 0 ∧ e = .int .i64 0 ∧ IB (w.heap.size + 1) [(0 : Int), (0 : Int), (0 : Int), (0 : Int)] wq ∧ Grow w wq ∧ wq.cell? ⟨w.heap.size, 0, none⟩ = some (.int .i64 1)) ∨ (i = .int .i64 1 ∧ e = .int .i64 0 ∧ IB (w.heap.size + 1) [(0 : Int), (0 : Int), (0 : Int), (0 : Int)] wq ∧ Grow w wq ∧ wq.cell? ⟨w.heap.size, 0, none⟩ = some (.int .i64 1)) ∨ (i = .int .i64 2 ∧ e = .int .i64 0 ∧ IB (w.heap.size + 1) [(0 : Int), (0 : Int), (0 : Int), (0 : Int)] wq ∧ Grow w wq ∧ wq.cell? ⟨w.heap.size, 0, none⟩ = some (.int .i64 1)) ∨ (i = .int .i64 3 ∧ e = .int .i64 0 ∧ IB (w.heap.size + 1) [(0 : Int), (0 : Int), (0 : Int), (0 : Int)] wq ∧ Grow w wq ∧ wq.cell? ⟨w.heap.size, 0, none⟩ = some (.int .i64 1)) ∨ (i = .int .i64 4 ∧ e = .int .i64 0 ∧ IB (w.heap.size + 1) [(0 : Int), (0 : Int), (0 : Int), (0 : Int)] wq ∧ Grow w wq ∧ wq.cell? ⟨w.heap.size, 0, none⟩ = some (.int .i64 1))) (fun i _ _ => (4 - intOf i).toNat)
      case atStart => exact .inl ⟨rfl, rfl, HZ0.out, HG2.out, HK2.out⟩
      case round =>
        rcases hrel with ⟨rfl, rfl, hib, hg, hk⟩ | ⟨rfl, rfl, hib, hg, hk⟩ | ⟨rfl, rfl, hib, hg, hk⟩ | ⟨rfl, rfl, hib, hg, hk⟩ | ⟨rfl, rfl, hib, hg, hk⟩
        · have HIB := Lib.hid hib; have HG := Lib.hid hg
          obtain ⟨cc, ff⟩ := hib.2 0 0 rfl
          have HI2 : Hid (IB (w.heap.size + 1) [(0 : Int), (0 : Int), (0 : Int), (0 : Int)] (World.drew (World.setCell wr ⟨w.heap.size + 1, 0, none⟩ (.int .i64 0)))) := IB.cast (show IB (w.heap.size + 1) (([(0 : Int), (0 : Int), (0 : Int), (0 : Int)] : List Int).set 0 0) _ from IB.up _ _ (IB.set (j := 0) hib 0) (Grow.refl _).drew) rfl
          have HG3 : Hid (Grow w (World.drew (World.setCell wr ⟨w.heap.size + 1, 0, none⟩ (.int .i64 0)))) := (Grow.setCell hg (p := ⟨w.heap.size + 1, 0, none⟩) (by simp) (.int .i64 0)).trans (Grow.refl _).drew
          have hk3 : (World.drew (World.setCell wr ⟨w.heap.size + 1, 0, none⟩ (.int .i64 0))).cell? ⟨w.heap.size, 0, none⟩ = some (.int .i64 1) := by go_simp
          have HK3 := Lib.hid hk3
          clear hib hg hk hk3
          go_wp2
          go_region
          go_wp2
          go_roundw
          case rel => exact .inr (.inl ⟨rfl, rfl, HI2.out, HG3.out, HK3.out⟩)
          case measure => simp [intOf]
        · have HIB := Lib.hid hib; have HG := Lib.hid hg
          obtain ⟨cc, ff⟩ := hib.2 1 0 rfl
          have HI2 : Hid (IB (w.heap.size + 1) [(0 : Int), (0 : Int), (0 : Int), (0 : Int)] (World.drew (World.setCell wr ⟨w.heap.size + 1, 1, none⟩ (.int .i64 0)))) := IB.cast (show IB (w.heap.size + 1) (([(0 : Int), (0 : Int), (0 : Int), (0 : Int)] : List Int).set 1 0) _ from IB.up _ _ (IB.set (j := 1) hib 0) (Grow.refl _).drew) rfl
          have HG3 : Hid (Grow w (World.drew (World.setCell wr ⟨w.heap.size + 1, 1, none⟩ (.int .i64 0)))) := (Grow.setCell hg (p := ⟨w.heap.size + 1, 1, none⟩) (by simp) (.int .i64 0)).trans (Grow.refl _).drew
          have hk3 : (World.drew (World.setCell wr ⟨w.heap.size + 1, 1, none⟩ (.int .i64 0))).cell? ⟨w.heap.size, 0, none⟩ = some (.int .i64 1) := by go_simp
          have HK3 := Lib.hid hk3
          clear hib hg hk hk3
          go_wp2
          go_region
          go_wp2
          go_roundw
          case rel => exact .inr (.inr (.inl ⟨rfl, rfl, HI2.out, HG3.out, HK3.out⟩))
          case measure => simp [intOf]
        · have HIB := Lib.hid hib; have HG := Lib.hid hg
          obtain ⟨cc, ff⟩ := hib.2 2 0 rfl
          have HI2 : Hid (IB (w.heap.size + 1) [(0 : Int), (0 : Int), (0 : Int), (0 : Int)] (World.drew (World.setCell wr ⟨w.heap.size + 1, 2, none⟩ (.int .i64 0)))) := IB.cast (show IB (w.heap.size + 1) (([(0 : Int), (0 : Int), (0 : Int), (0 : Int)] : List Int).set 2 0) _ from IB.up _ _ (IB.set (j := 2) hib 0) (Grow.refl _).drew) rfl
          have HG3 : Hid (Grow w (World.drew (World.setCell wr ⟨w.heap.size + 1, 2, none⟩ (.int .i64 0)))) := (Grow.setCell hg (p := ⟨w.heap.size + 1, 2, none⟩) (by simp) (.int .i64 0)).trans (Grow.refl _).drew
          have hk3 : (World.drew (World.setCell wr ⟨w.heap.size + 1, 2, none⟩ (.int .i64 0))).cell? ⟨w.heap.size, 0, none⟩ = some (.int .i64 1) := by go_simp
          have HK3 := Lib.hid hk3
          clear hib hg hk hk3
          go_wp2
          go_region
          go_wp2
          go_roundw
          case rel => exact .inr (.inr (.inr (.inl ⟨rfl, rfl, HI2.out, HG3.out, HK3.out⟩)))
          case measure => simp [intOf]
        · have HIB := Lib.hid hib; have HG := Lib.hid hg
          obtain ⟨cc, ff⟩ := hib.2 3 0 rfl
          have HI2 : Hid (IB (w.heap.size + 1) [(0 : Int), (0 : Int), (0 : Int), (0 : Int)] (World.drew (World.setCell wr ⟨w.heap.size + 1, 3, none⟩ (.int .i64 0)))) := IB.cast (show IB (w.heap.size + 1) (([(0 : Int), (0 : Int), (0 : Int), (0 : Int)] : List Int).set 3 0) _ from IB.up _ _ (IB.set (j := 3) hib 0) (Grow.refl _).drew) rfl
          have HG3 : Hid (Grow w (World.drew (World.setCell wr ⟨w.heap.size + 1, 3, none⟩ (.int .i64 0)))) := (Grow.setCell hg (p := ⟨w.heap.size + 1, 3, none⟩) (by simp) (.int .i64 0)).trans (Grow.refl _).drew
          have hk3 : (World.drew (World.setCell wr ⟨w.heap.size + 1, 3, none⟩ (.int .i64 0))).cell? ⟨w.heap.size, 0, none⟩ = some (.int .i64 1) := by go_simp
          have HK3 := Lib.hid hk3
          clear hib hg hk hk3
          go_wp2
          go_region
          go_wp2
          go_roundw
          case rel => exact .inr (.inr (.inr (.inr (⟨rfl, rfl, HI2.out, HG3.out, HK3.out⟩))))
          case measure => simp [intOf]
        · have HIB := Lib.hid (IB.cast hib (show ([(0 : Int), (0 : Int), (0 : Int), (0 : Int)] : List Int) = gC 4 0 by kernel_rfl)); have HG := Lib.hid hg
          clear hib hg
          go_wp2
          go_roundw
          case rel => exact .inr ⟨rfl, HIB.out, HG.out, hk⟩
          case measure => simp [intOf]
set_option maxRecDepth 100000 in
set_option maxHeartbeats 16000000 in
theorem coord4_1 (w : World) : Calls Tryd.prog 14 #[.agg #[.int .i64 1], .slice none 0 0, .int .i64 1] w (CoQ 4 1 w) := by
  have hmk : ∀ w : World, (Instr.makeSlice 22 (.int .i64 4) (.int .i64 4)).run Tryd.prog w = .ok (.slice (some ⟨w.heap.size, 0, none⟩) 4 4) (w.alloc (.cells (madeCells #[.int .i64 0] 4) 3)) := fun w => run_make_row' (P := Tryd.prog) 22 3 (.int .i64 0) 8 undI infoI rfl .i64 .i64 4 (by omega) (by omega) w
  have heq : ∀ w, (binOp .eql 22 (.slice none 0 0) (.slice none 0 0)).run Tryd.prog w = .ok (.bool true) w := fun w => by simp only [binOp]; simp [run_equal_slice_nil (P := Tryd.prog) w 22 3 none 0 0 undI]
  have HG0 := Lib.hid (((Grow.refl w).alloc (.cells #[.int .i64 1] 40)).alloc (.cells (madeCells #[.int .i64 0] 4) 3))
  have HI0 := Lib.hid (IB.made (w.alloc (.cells #[.int .i64 1] 40)) 4)
  rw [show (w.alloc (.cells #[.int .i64 1] 40)).heap.size = w.heap.size + 1 by simp] at HI0
  have kn : ((w.alloc (.cells #[.int .i64 1] 40)).alloc (.cells (madeCells #[.int .i64 0] 4) 3)).cell? ⟨w.heap.size, 0, none⟩ = some (.int .i64 1) := by go_simp
  go_enter Tryd.func14, Tryd.ntmps14
  go_wp2
  clear hmk heq
  generalize (w.alloc (.cells #[.int .i64 1] 40)).alloc (.cells (madeCells #[.int .i64 0] 4) 3) = W0 at *
  have hlq := cell_ltH kn
  go_loopw [2, 8] (fun pos n wr => (n = .int .i64 0 ∧ pos = .int .i64 1 ∧ wr = W0) ∨ (n = .int .i64 1 ∧ IB (w.heap.size + 1) (gC 4 1) wr ∧ Grow w wr ∧ wr.cell? ⟨w.heap.size, 0, none⟩ = some (.int .i64 1))) (fun _ n _ => (1 - intOf n).toNat)
  case atStart => exact .inl ⟨rfl, rfl, rfl⟩
  case round =>
    rcases hrel with ⟨rfl, rfl, rfl⟩ | ⟨rfl, hib, hg, hkn⟩
    case inr =>
      have HI := Lib.hid hib; have HG := Lib.hid hg
      clear hib hg kn
      go_wp2
      go_ret
      exact ⟨_, rfl, HG.out, HI.out⟩
    case inl =>
      go_wp2
      refine wp_normal ?_
      go_region_law (go_simp; go_at_call 22; refine (rot4_zero _ _ _ _ true _ (IB.up _ _ HI0.out (by repeat (first | exact Grow.refl _ | refine Grow.drew ?_ | refine Grow.alloc ?_ _))) (by simp) (by omega)).mono ?_; rintro e w2 h2; obtain ⟨rfl, hg2, hz2⟩ := TuQ.zero h2; have HZ := Lib.hid hz2; have HG2 := Lib.hid (GX.grow (w := w) hg2 (HG0.out.trans (by repeat (first | exact Grow.refl _ | refine Grow.drew ?_ | refine Grow.alloc ?_ _))) (fun k hk => by omega)); have k2 := (hg2.cell _ 0 (by simpa using hlq) (by simp)).trans kn; clear h2 hg2 hz2)
      have HZ0 := Lib.hid (IB.cast HZ.out (show List.replicate 4 (0 : Int) = [(0 : Int), (0 : Int), (0 : Int), (0 : Int)] from rfl))
      have HK2 := Lib.hid k2
      clear k2
      go_wp2
      go_loopw [10, 11] (fun i e wq => (i = .int .i64 0 ∧ e = .int .i64 1 ∧ IB (w.heap.size + 1) [(0 : Int), (0 : Int), (0 : Int), (0 : Int)] wq ∧ Grow w wq ∧ wq.cell? ⟨w.heap.size, 0, none⟩ = some (.int .i64 1)) ∨ (i = .int .i64 1 ∧ e = .int .i64 0 ∧ IB (w.heap.size + 1) [(1 : Int), (0 : Int), (0 : Int), (0 : Int)] wq ∧ Grow w wq ∧ wq.cell? ⟨w.heap.size, 0, none⟩ = some (.int .i64 1)) ∨ (i = .int .i64 2 ∧ e = .int .i64 0 ∧ IB (w.heap.size + 1) [(1 : Int), (0 : Int), (0 : Int), (0 : Int)] wq ∧ Grow w wq ∧ wq.cell? ⟨w.heap.size, 0, none⟩ = some (.int .i64 1)) ∨ (i = .int .i64 3 ∧ e = .int .i64 0 ∧ IB (w.heap.size + 1) [(1 : Int), (0 : Int), (0 : Int), (0 : Int)] wq ∧ Grow w wq ∧ wq.cell? ⟨w.heap.size, 0, none⟩ = some (.int .i64 1)) ∨ (i = .int .i64 4 ∧ e = .int .i64 0 ∧ IB (w.heap.size + 1) [(1 : Int), (0 : Int), (0 : Int), (0 : Int)] wq ∧ Grow w wq ∧ wq.cell? ⟨w.heap.size, 0, none⟩ = some (.int .i64 1))) (fun i _ _ => (4 - intOf i).toNat)
      case atStart => exact .inl ⟨rfl, rfl, HZ0.out, HG2.out, HK2.out⟩
      case round =>
        rcases hrel with ⟨rfl, rfl, hib, hg, hk⟩ | ⟨rfl, rfl, hib, hg, hk⟩ | ⟨rfl, rfl, hib, hg, hk⟩ | ⟨rfl, rfl, hib, hg, hk⟩ | ⟨rfl, rfl, hib, hg, hk⟩
        · have HIB := Lib.hid hib; have HG := Lib.hid hg
          obtain ⟨cc, ff⟩ := hib.2 0 0 rfl
          have HI2 : Hid (IB (w.heap.size + 1) [(1 : Int), (0 : Int), (0 : Int), (0 : Int)] (World.drew (World.setCell wr ⟨w.heap.size + 1, 0, none⟩ (.int .i64 1)))) := IB.cast (show IB (w.heap.size + 1) (([(0 : Int), (0 : Int), (0 : Int), (0 : Int)] : List Int).set 0 1) _ from IB.up _ _ (IB.set (j := 0) hib 1) (Grow.refl _).drew) rfl
          have HG3 : Hid (Grow w (World.drew (World.setCell wr ⟨w.heap.size + 1, 0, none⟩ (.int .i64 1)))) := (Grow.setCell hg (p := ⟨w.heap.size + 1, 0, none⟩) (by simp) (.int .i64 1)).trans (Grow.refl _).drew
          have hk3 : (World.drew (World.setCell wr ⟨w.heap.size + 1, 0, none⟩ (.int .i64 1))).cell? ⟨w.heap.size, 0, none⟩ = some (.int .i64 1) := by go_simp
          have HK3 := Lib.hid hk3
          clear hib hg hk hk3
          go_wp2
          go_region
          go_wp2
          go_roundw
          case rel => exact .inr (.inl ⟨rfl, rfl, HI2.out, HG3.out, HK3.out⟩)
          case measure => simp [intOf]
        · have HIB := Lib.hid hib; have HG := Lib.hid hg
          obtain ⟨cc, ff⟩ := hib.2 1 0 rfl
          have HI2 : Hid (IB (w.heap.size + 1) [(1 : Int), (0 : Int), (0 : Int), (0 : Int)] (World.drew (World.setCell wr ⟨w.heap.size + 1, 1, none⟩ (.int .i64 0)))) := IB.cast (show IB (w.heap.size + 1) (([(1 : Int), (0 : Int), (0 : Int), (0 : Int)] : List Int).set 1 0) _ from IB.up _ _ (IB.set (j := 1) hib 0) (Grow.refl _).drew) rfl
          have HG3 : Hid (Grow w (World.drew (World.setCell wr ⟨w.heap.size + 1, 1, none⟩ (.int .i64 0)))) := (Grow.setCell hg (p := ⟨w.heap.size + 1, 1, none⟩) (by simp) (.int .i64 0)).trans (Grow.refl _).drew
          have hk3 : (World.drew (World.setCell wr ⟨w.heap.size + 1, 1, none⟩ (.int .i64 0))).cell? ⟨w.heap.size, 0, none⟩ = some (.int .i64 1) := by go_simp
          have HK3 := Lib.hid hk3
          clear hib hg hk hk3
          go_wp2
          go_region
          go_wp2
          go_roundw
          case rel => exact .inr (.inr (.inl ⟨rfl, rfl, HI2.out, HG3.out, HK3.out⟩))
          case measure => simp [intOf]
        · have HIB := Lib.hid hib; have HG := Lib.hid hg
          obtain ⟨cc, ff⟩ := hib.2 2 0 rfl
          have HI2 : Hid (IB (w.heap.size + 1) [(1 : Int), (0 : Int), (0 : Int), (0 : Int)] (World.drew (World.setCell wr ⟨w.heap.size + 1, 2, none⟩ (.int .i64 0)))) := IB.cast (show IB (w.heap.size + 1) (([(1 : Int), (0 : Int), (0 : Int), (0 : Int)] : List Int).set 2 0) _ from IB.up _ _ (IB.set (j := 2) hib 0) (Grow.refl _).drew) rfl
          have HG3 : Hid (Grow w (World.drew (World.setCell wr ⟨w.heap.size + 1, 2, none⟩ (.int .i64 0)))) := (Grow.setCell hg (p := ⟨w.heap.size + 1, 2, none⟩) (by simp) (.int .i64 0)).trans (Grow.refl _).drew
          have hk3 : (World.drew (World.setCell wr ⟨w.heap.size + 1, 2, none⟩ (.int .i64 0))).cell? ⟨w.heap.size, 0, none⟩ = some (.int .i64 1) := by go_simp
          have HK3 := Lib.hid hk3
          clear hib hg hk hk3
          go_wp2
          go_region
          go_wp2
          go_roundw
          case rel => exact .inr (.inr (.inr (.inl ⟨rfl, rfl, HI2.out, HG3.out, HK3.out⟩)))
          case measure => simp [intOf]
        · have HIB := Lib.hid hib; have HG := Lib.hid hg
          obtain ⟨cc, ff⟩ := hib.2 3 0 rfl
          have HI2 : Hid (IB (w.heap.size + 1) [(1 : Int), (0 : Int), (0 : Int), (0 : Int)] (World.drew (World.setCell wr ⟨w.heap.size + 1, 3, none⟩ (.int .i64 0)))) := IB.cast (show IB (w.heap.size + 1) (([(1 : Int), (0 : Int), (0 : Int), (0 : Int)] : List Int).set 3 0) _ from IB.up _ _ (IB.set (j := 3) hib 0) (Grow.refl _).drew) rfl
          have HG3 : Hid (Grow w (World.drew (World.setCell wr ⟨w.heap.size + 1, 3, none⟩ (.int .i64 0)))) := (Grow.setCell hg (p := ⟨w.heap.size + 1, 3, none⟩) (by simp) (.int .i64 0)).trans (Grow.refl _).drew
          have hk3 : (World.drew (World.setCell wr ⟨w.heap.size + 1, 3, none⟩ (.int .i64 0))).cell? ⟨w.heap.size, 0, none⟩ = some (.int .i64 1) := by go_simp
          have HK3 := Lib.hid hk3
          clear hib hg hk hk3
          go_wp2
          go_region
          go_wp2
          go_roundw
          case rel => exact .inr (.inr (.inr (.inr (⟨rfl, rfl, HI2.out, HG3.out, HK3.out⟩))))
          case measure => simp [intOf]
        · have HIB := Lib.hid (IB.cast hib (show ([(1 : Int), (0 : Int), (0 : Int), (0 : Int)] : List Int) = gC 4 1 by kernel_rfl)); have HG := Lib.hid hg
          clear hib hg
          go_wp2
          go_roundw
          case rel => exact .inr ⟨rfl, HIB.out, HG.out, hk⟩
          case measure => simp [intOf]
set_option maxRecDepth 100000 in
set_option maxHeartbeats 16000000 in
theorem coord4_2 (w : World) : Calls Tryd.prog 14 #[.agg #[.int .i64 1], .slice none 0 0, .int .i64 2] w (CoQ 4 2 w) := by
  have hmk : ∀ w : World, (Instr.makeSlice 22 (.int .i64 4) (.int .i64 4)).run Tryd.prog w = .ok (.slice (some ⟨w.heap.size, 0, none⟩) 4 4) (w.alloc (.cells (madeCells #[.int .i64 0] 4) 3)) := fun w => run_make_row' (P := Tryd.prog) 22 3 (.int .i64 0) 8 undI infoI rfl .i64 .i64 4 (by omega) (by omega) w
  have heq : ∀ w, (binOp .eql 22 (.slice none 0 0) (.slice none 0 0)).run Tryd.prog w = .ok (.bool true) w := fun w => by simp only [binOp]; simp [run_equal_slice_nil (P := Tryd.prog) w 22 3 none 0 0 undI]
  have HG0 := Lib.hid (((Grow.refl w).alloc (.cells #[.int .i64 1] 40)).alloc (.cells (madeCells #[.int .i64 0] 4) 3))
  have HI0 := Lib.hid (IB.made (w.alloc (.cells #[.int .i64 1] 40)) 4)
  rw [show (w.alloc (.cells #[.int .i64 1] 40)).heap.size = w.heap.size + 1 by simp] at HI0
  have kn : ((w.alloc (.cells #[.int .i64 1] 40)).alloc (.cells (madeCells #[.int .i64 0] 4) 3)).cell? ⟨w.heap.size, 0, none⟩ = some (.int .i64 1) := by go_simp
  go_enter Tryd.func14, Tryd.ntmps14
  go_wp2
  clear hmk heq
  generalize (w.alloc (.cells #[.int .i64 1] 40)).alloc (.cells (madeCells #[.int .i64 0] 4) 3) = W0 at *
  have hlq := cell_ltH kn
  go_loopw [2, 8] (fun pos n wr => (n = .int .i64 0 ∧ pos = .int .i64 2 ∧ wr = W0) ∨ (n = .int .i64 1 ∧ IB (w.heap.size + 1) (gC 4 2) wr ∧ Grow w wr ∧ wr.cell? ⟨w.heap.size, 0, none⟩ = some (.int .i64 1))) (fun _ n _ => (1 - intOf n).toNat)
  case atStart => exact .inl ⟨rfl, rfl, rfl⟩
  case round =>
    rcases hrel with ⟨rfl, rfl, rfl⟩ | ⟨rfl, hib, hg, hkn⟩
    case inr =>
      have HI := Lib.hid hib; have HG := Lib.hid hg
      clear hib hg kn
      go_wp2
      go_ret
      exact ⟨_, rfl, HG.out, HI.out⟩
    case inl =>
      go_wp2
      refine wp_normal ?_
      go_region_law (go_simp; go_at_call 22; refine (rot4_zero _ _ _ _ true _ (IB.up _ _ HI0.out (by repeat (first | exact Grow.refl _ | refine Grow.drew ?_ | refine Grow.alloc ?_ _))) (by simp) (by omega)).mono ?_; rintro e w2 h2; obtain ⟨rfl, hg2, hz2⟩ := TuQ.zero h2; have HZ := Lib.hid hz2; have HG2 := Lib.hid (GX.grow (w := w) hg2 (HG0.out.trans (by repeat (first | exact Grow.refl _ | refine Grow.drew ?_ | refine Grow.alloc ?_ _))) (fun k hk => by omega)); have k2 := (hg2.cell _ 0 (by simpa using hlq) (by simp)).trans kn; clear h2 hg2 hz2)
      have HZ0 := Lib.hid (IB.cast HZ.out (show List.replicate 4 (0 : Int) = [(0 : Int), (0 : Int), (0 : Int), (0 : Int)] from rfl))
      have HK2 := Lib.hid k2
      clear k2
      go_wp2
      go_loopw [10, 11] (fun i e wq => (i = .int .i64 0 ∧ e = .int .i64 2 ∧ IB (w.heap.size + 1) [(0 : Int), (0 : Int), (0 : Int), (0 : Int)] wq ∧ Grow w wq ∧ wq.cell? ⟨w.heap.size, 0, none⟩ = some (.int .i64 1)) ∨ (i = .int .i64 1 ∧ e = .int .i64 1 ∧ IB (w.heap.size + 1) [(1 : Int), (0 : Int), (0 : Int), (0 : Int)] wq ∧ Grow w wq ∧ wq.cell? ⟨w.heap.size, 0, none⟩ = some (.int .i64 1)) ∨ (i = .int .i64 2 ∧ e = .int .i64 0 ∧ IB (w.heap.size + 1) [(1 : Int), (1 : Int), (0 : Int), (0 : Int)] wq ∧ Grow w wq ∧ wq.cell? ⟨w.heap.size, 0, none⟩ = some (.int .i64 1)) ∨ (i = .int .i64 3 ∧ e = .int .i64 0 ∧ IB (w.heap.size + 1) [(1 : Int), (1 : Int), (0 : Int), (0 : Int)] wq ∧ Grow w wq ∧ wq.cell? ⟨w.heap.size, 0, none⟩ = some (.int .i64 1)) ∨ (i = .int .i64 4 ∧ e = .int .i64 0 ∧ IB (w.heap.size + 1) [(1 : Int), (1 : Int), (0 : Int), (0 : Int)] wq ∧ Grow w wq ∧ wq.cell? ⟨w.heap.size, 0, none⟩ = some (.int .i64 1))) (fun i _ _ => (4 - intOf i).toNat)
      case atStart => exact .inl ⟨rfl, rfl, HZ0.out, HG2.out, HK2.out⟩
      case round =>
        rcases hrel with ⟨rfl, rfl, hib, hg, hk⟩ | ⟨rfl, rfl, hib, hg, hk⟩ | ⟨rfl, rfl, hib, hg, hk⟩ | ⟨rfl, rfl, hib, hg, hk⟩ | ⟨rfl, rfl, hib, hg, hk⟩
        · have HIB := Lib.hid hib; have HG := Lib.hid hg
          obtain ⟨cc, ff⟩ := hib.2 0 0 rfl
          have HI2 : Hid (IB (w.heap.size + 1) [(1 : Int), (0 : Int), (0 : Int), (0 : Int)] (World.drew (World.setCell wr ⟨w.heap.size + 1, 0, none⟩ (.int .i64 1)))) := IB.cast (show IB (w.heap.size + 1) (([(0 : Int), (0 : Int), (0 : Int), (0 : Int)] : List Int).set 0 1) _ from IB.up _ _ (IB.set (j := 0) hib 1) (Grow.refl _).drew) rfl
          have HG3 : Hid (Grow w (World.drew (World.setCell wr ⟨w.heap.size + 1, 0, none⟩ (.int .i64 1)))) := (Grow.setCell hg (p := ⟨w.heap.size + 1, 0, none⟩) (by simp) (.int .i64 1)).trans (Grow.refl _).drew
          have hk3 : (World.drew (World.setCell wr ⟨w.heap.size + 1, 0, none⟩ (.int .i64 1))).cell? ⟨w.heap.size, 0, none⟩ = some (.int .i64 1) := by go_simp
          have HK3 := Lib.hid hk3
          clear hib hg hk hk3
          go_wp2
          go_region
          go_wp2
          go_roundw
          case rel => exact .inr (.inl ⟨rfl, rfl, HI2.out, HG3.out, HK3.out⟩)
          case measure => simp [intOf]
        · have HIB := Lib.hid hib; have HG := Lib.hid hg
          obtain ⟨cc, ff⟩ := hib.2 1 0 rfl
          have HI2 : Hid (IB (w.heap.size + 1) [(1 : Int), (1 : Int), (0 : Int), (0 : Int)] (World.drew (World.setCell wr ⟨w.heap.size + 1, 1, none⟩ (.int .i64 1)))) := IB.cast (show IB (w.heap.size + 1) (([(1 : Int), (0 : Int), (0 : Int), (0 : Int)] : List Int).set 1 1) _ from IB.up _ _ (IB.set (j := 1) hib 1) (Grow.refl _).drew) rfl
          have HG3 : Hid (Grow w (World.drew (World.setCell wr ⟨w.heap.size + 1, 1, none⟩ (.int .i64 1)))) := (Grow.setCell hg (p := ⟨w.heap.size + 1, 1, none⟩) (by simp) (.int .i64 1)).trans (Grow.refl _).drew
          have hk3 : (World.drew (World.setCell wr ⟨w.heap.size + 1, 1, none⟩ (.int .i64 1))).cell? ⟨w.heap.size, 0, none⟩ = some (.int .i64 1) := by go_simp
          have HK3 := Lib.hid hk3
          clear hib hg hk hk3
          go_wp2
          go_region
          go_wp2
          go_roundw
          case rel => exact .inr (.inr (.inl ⟨rfl, rfl, HI2.out, HG3.out, HK3.out⟩))
          case measure => simp [intOf]
        · have HIB := Lib.hid hib; have HG := Lib.hid hg
          obtain ⟨cc, ff⟩ := hib.2 2 0 rfl
          have HI2 : Hid (IB (w.heap.size + 1) [(1 : Int), (1 : Int), (0 : Int), (0 : Int)] (World.drew (World.setCell wr ⟨w.heap.size + 1, 2, none⟩ (.int .i64 0)))) := IB.cast (show IB (w.heap.size + 1) (([(1 : Int), (1 : Int), (0 : Int), (0 : Int)] : List Int).set 2 0) _ from IB.up _ _ (IB.set (j := 2) hib 0) (Grow.refl _).drew) rfl
          have HG3 : Hid (Grow w (World.drew (World.setCell wr ⟨w.heap.size + 1, 2, none⟩ (.int .i64 0)))) := (Grow.setCell hg (p := ⟨w.heap.size + 1, 2, none⟩) (by simp) (.int .i64 0)).trans (Grow.refl _).drew
          have hk3 : (World.drew (World.setCell wr ⟨w.heap.size + 1, 2, none⟩ (.int .i64 0))).cell? ⟨w.heap.size, 0, none⟩ = some (.int .i64 1) := by go_simp
          have HK3 := Lib.hid hk3
          clear hib hg hk hk3
          go_wp2
          go_region
          go_wp2
          go_roundw
          case rel => exact .inr (.inr (.inr (.inl ⟨rfl, rfl, HI2.out, HG3.out, HK3.out⟩)))
          case measure => simp [intOf]
        · have HIB := Lib.hid hib; have HG := Lib.hid hg
          obtain ⟨cc, ff⟩ := hib.2 3 0 rfl
          have HI2 : Hid (IB (w.heap.size + 1) [(1 : Int), (1 : Int), (0 : Int), (0 : Int)] (World.drew (World.setCell wr ⟨w.heap.size + 1, 3, none⟩ (.int .i64 0)))) := IB.cast (show IB (w.heap.size + 1) (([(1 : Int), (1 : Int), (0 : Int), (0 : Int)] : List Int).set 3 0) _ from IB.up _ _ (IB.set (j := 3) hib 0) (Grow.refl _).drew) rfl
          have HG3 : Hid (Grow w (World.drew (World.setCell wr ⟨w.heap.size + 1, 3, none⟩ (.int .i64 0)))) := (Grow.setCell hg (p := ⟨w.heap.size + 1, 3, none⟩) (by simp) (.int .i64 0)).trans (Grow.refl _).drew
          have hk3 : (World.drew (World.setCell wr ⟨w.heap.size + 1, 3, none⟩ (.int .i64 0))).cell? ⟨w.heap.size, 0, none⟩ = some (.int .i64 1) := by go_simp
          have HK3 := Lib.hid hk3
          clear hib hg hk hk3
          go_wp2
          go_region
          go_wp2
          go_roundw
          case rel => exact .inr (.inr (.inr (.inr (⟨rfl, rfl, HI2.out, HG3.out, HK3.out⟩))))
          case measure => simp [intOf]
        · have HIB := Lib.hid (IB.cast hib (show ([(1 : Int), (1 : Int), (0 : Int), (0 : Int)] : List Int) = gC 4 2 by kernel_rfl)); have HG := Lib.hid hg
          clear hib hg
          go_wp2
          go_roundw
          case rel => exact .inr ⟨rfl, HIB.out, HG.out, hk⟩
          case measure => simp [intOf]
set_option maxRecDepth 100000 in
set_option maxHeartbeats 16000000 in
theorem coord4_3 (w : World) : Calls Tryd.prog 14 #[.agg #[.int .i64 1], .slice none 0 0, .int .i64 3] w (CoQ 4 3 w) := by
  have hmk : ∀ w : World, (Instr.makeSlice 22 (.int .i64 4) (.int .i64 4)).run Tryd.prog w = .ok (.slice (some ⟨w.heap.size, 0, none⟩) 4 4) (w.alloc (.cells (madeCells #[.int .i64 0] 4) 3)) := fun w => run_make_row' (P := Tryd.prog) 22 3 (.int .i64 0) 8 undI infoI rfl .i64 .i64 4 (by omega) (by omega) w
  have heq : ∀ w, (binOp .eql 22 (.slice none 0 0) (.slice none 0 0)).run Tryd.prog w = .ok (.bool true) w := fun w => by simp only [binOp]; simp [run_equal_slice_nil (P := Tryd.prog) w 22 3 none 0 0 undI]
  have HG0 := Lib.hid (((Grow.refl w).alloc (.cells #[.int .i64 1] 40)).alloc (.cells (madeCells #[.int .i64 0] 4) 3))
  have HI0 := Lib.hid (IB.made (w.alloc (.cells #[.int .i64 1] 40)) 4)
  rw [show (w.alloc (.cells #[.int .i64 1] 40)).heap.size = w.heap.size + 1 by simp] at HI0
  have kn : ((w.alloc (.cells #[.int .i64 1] 40)).alloc (.cells (madeCells #[.int .i64 0] 4) 3)).cell? ⟨w.heap.size, 0, none⟩ = some (.int .i64 1) := by go_simp
  go_enter Tryd.func14, Tryd.ntmps14
  go_wp2
  clear hmk heq
  generalize (w.alloc (.cells #[.int .i64 1] 40)).alloc (.cells (madeCells #[.int .i64 0] 4) 3) = W0 at *
  have hlq := cell_ltH kn
  go_loopw [2, 8] (fun pos n wr => (n = .int .i64 0 ∧ pos = .int .i64 3 ∧ wr = W0) ∨ (n = .int .i64 1 ∧ IB (w.heap.size + 1) (gC 4 3) wr ∧ Grow w wr ∧ wr.cell? ⟨w.heap.size, 0, none⟩ = some (.int .i64 1))) (fun _ n _ => (1 - intOf n).toNat)
  case atStart => exact .inl ⟨rfl, rfl, rfl⟩
  case round =>
    rcases hrel with ⟨rfl, rfl, rfl⟩ | ⟨rfl, hib, hg, hkn⟩
    case inr =>
      have HI := Lib.hid hib; have HG := Lib.hid hg
      clear hib hg kn
      go_wp2
      go_ret
      exact ⟨_, rfl, HG.out, HI.out⟩
    case inl =>
      go_wp2
      refine wp_normal ?_
      go_region_law (go_simp; go_at_call 22; refine (rot4_zero _ _ _ _ true _ (IB.up _ _ HI0.out (by repeat (first | exact Grow.refl _ | refine Grow.drew ?_ | refine Grow.alloc ?_ _))) (by simp) (by omega)).mono ?_; rintro e w2 h2; obtain ⟨rfl, hg2, hz2⟩ := TuQ.zero h2; have HZ := Lib.hid hz2; have HG2 := Lib.hid (GX.grow (w := w) hg2 (HG0.out.trans (by repeat (first | exact Grow.refl _ | refine Grow.drew ?_ | refine Grow.alloc ?_ _))) (fun k hk => by omega)); have k2 := (hg2.cell _ 0 (by simpa using hlq) (by simp)).trans kn; clear h2 hg2 hz2)
      have HZ0 := Lib.hid (IB.cast HZ.out (show List.replicate 4 (0 : Int) = [(0 : Int), (0 : Int), (0 : Int), (0 : Int)] from rfl))
      have HK2 := Lib.hid k2
      clear k2
      go_wp2
      go_loopw [10, 11] (fun i e wq => (i = .int .i64 0 ∧ e = .int .i64 3 ∧ IB (w.heap.size + 1) [(0 : Int), (0 : Int), (0 : Int), (0 : Int)] wq ∧ Grow w wq ∧ wq.cell? ⟨w.heap.size, 0, none⟩ = some (.int .i64 1)) ∨ (i = .int .i64 1 ∧ e = .int .i64 1 ∧ IB (w.heap.size + 1) [(0 : Int), (0 : Int), (0 : Int), (0 : Int)] wq ∧ Grow w wq ∧ wq.cell? ⟨w.heap.size, 0, none⟩ = some (.int .i64 1)) ∨ (i = .int .i64 2 ∧ e = .int .i64 0 ∧ IB (w.heap.size + 1) [(0 : Int), (1 : Int), (0 : Int), (0 : Int)] wq ∧ Grow w wq ∧ wq.cell? ⟨w.heap.size, 0, none⟩ = some (.int .i64 1)) ∨ (i = .int .i64 3 ∧ e = .int .i64 0 ∧ IB (w.heap.size + 1) [(0 : Int), (1 : Int), (0 : Int), (0 : Int)] wq ∧ Grow w wq ∧ wq.cell? ⟨w.heap.size, 0, none⟩ = some (.int .i64 1)) ∨ (i = .int .i64 4 ∧ e = .int .i64 0 ∧ IB (w.heap.size + 1) [(0 : Int), (1 : Int), (0 : Int), (0 : Int)] wq ∧ Grow w wq ∧ wq.cell? ⟨w.heap.size, 0, none⟩ = some (.int .i64 1))) (fun i _ _ => (4 - intOf i).toNat)
      case atStart => exact .inl ⟨rfl, rfl, HZ0.out, HG2.out, HK2.out⟩
      case round =>
        rcases hrel with ⟨rfl, rfl, hib, hg, hk⟩ | ⟨rfl, rfl, hib, hg, hk⟩ | ⟨rfl, rfl, hib, hg, hk⟩ | ⟨rfl, rfl, hib, hg, hk⟩ | ⟨rfl, rfl, hib, hg, hk⟩
        · have HIB := Lib.hid hib; have HG := Lib.hid hg
          obtain ⟨cc, ff⟩ := hib.2 0 0 rfl
          have HI2 : Hid (IB (w.heap.size + 1) [(0 : Int), (0 : Int), (0 : Int), (0 : Int)] (World.drew (World.setCell wr ⟨w.heap.size + 1, 0, none⟩ (.int .i64 0)))) := IB.cast (show IB (w.heap.size + 1) (([(0 : Int), (0 : Int), (0 : Int), (0 : Int)] : List Int).set 0 0) _ from IB.up _ _ (IB.set (j := 0) hib 0) (Grow.refl _).drew) rfl
          have HG3 : Hid (Grow w (World.drew (World.setCell wr ⟨w.heap.size + 1, 0, none⟩ (.int .i64 0)))) := (Grow.setCell hg (p := ⟨w.heap.size + 1, 0, none⟩) (by simp) (.int .i64 0)).trans (Grow.refl _).drew
          have hk3 : (World.drew (World.setCell wr ⟨w.heap.size + 1, 0, none⟩ (.int .i64 0))).cell? ⟨w.heap.size, 0, none⟩ = some (.int .i64 1) := by go_simp
          have HK3 := Lib.hid hk3
          clear hib hg hk hk3
          go_wp2
          go_region
          go_wp2
          go_roundw
          case rel => exact .inr (.inl ⟨rfl, rfl, HI2.out, HG3.out, HK3.out⟩)
          case measure => simp [intOf]
        · have HIB := Lib.hid hib; have HG := Lib.hid hg
          obtain ⟨cc, ff⟩ := hib.2 1 0 rfl
          have HI2 : Hid (IB (w.heap.size + 1) [(0 : Int), (1 : Int), (0 : Int), (0 : Int)] (World.drew (World.setCell wr ⟨w.heap.size + 1, 1, none⟩ (.int .i64 1)))) := IB.cast (show IB (w.heap.size + 1) (([(0 : Int), (0 : Int), (0 : Int), (0 : Int)] : List Int).set 1 1) _ from IB.up _ _ (IB.set (j := 1) hib 1) (Grow.refl _).drew) rfl
          have HG3 : Hid (Grow w (World.drew (World.setCell wr ⟨w.heap.size + 1, 1, none⟩ (.int .i64 1)))) := (Grow.setCell hg (p := ⟨w.heap.size + 1, 1, none⟩) (by simp) (.int .i64 1)).trans (Grow.refl _).drew
          have hk3 : (World.drew (World.setCell wr ⟨w.heap.size + 1, 1, none⟩ (.int .i64 1))).cell? ⟨w.heap.size, 0, none⟩ = some (.int .i64 1) := by go_simp
          have HK3 := Lib.hid hk3
          clear hib hg hk hk3
          go_wp2
          go_region
          go_wp2
          go_roundw
          case rel => exact .inr (.inr (.inl ⟨rfl, rfl, HI2.out, HG3.out, HK3.out⟩))
          case measure => simp [intOf]
        · have HIB := Lib.hid hib; have HG := Lib.hid hg
          obtain ⟨cc, ff⟩ := hib.2 2 0 rfl
          have HI2 : Hid (IB (w.heap.size + 1) [(0 : Int), (1 : Int), (0 : Int), (0 : Int)] (World.drew (World.setCell wr ⟨w.heap.size + 1, 2, none⟩ (.int .i64 0)))) := IB.cast (show IB (w.heap.size + 1) (([(0 : Int), (1 : Int), (0 : Int), (0 : Int)] : List Int).set 2 0) _ from IB.up _ _ (IB.set (j := 2) hib 0) (Grow.refl _).drew) rfl
          have HG3 : Hid (Grow w (World.drew (World.setCell wr ⟨w.heap.size + 1, 2, none⟩ (.int .i64 0)))) := (Grow.setCell hg (p := ⟨w.heap.size + 1, 2, none⟩) (by simp) (.int .i64 0)).trans (Grow.refl _).drew
          have hk3 : (World.drew (World.setCell wr ⟨w.heap.size + 1, 2, none⟩ (.int .i64 0))).cell? ⟨w.heap.size, 0, none⟩ = some (.int .i64 1) := by go_simp
          have HK3 := Lib.hid hk3
          clear hib hg hk hk3
          go_wp2
          go_region
          go_wp2
          go_roundw
          case rel => exact .inr (.inr (.inr (.inl ⟨rfl, rfl, HI2.out, HG3.out, HK3.out⟩)))
          case measure => simp [intOf]
        · have HIB := Lib.hid hib; have HG := Lib.hid hg
          obtain ⟨cc, ff⟩ := hib.2 3 0 rfl
          have HI2 : Hid (IB (w.heap.size + 1) [(0 : Int), (1 : Int), (0 : Int), (0 : Int)] (World.drew (World.setCell wr ⟨w.heap.size + 1, 3, none⟩ (.int .i64 0)))) := IB.cast (show IB (w.heap.size + 1) (([(0 : Int), (1 : Int), (0 : Int), (0 : Int)] : List Int).set 3 0) _ from IB.up _ _ (IB.set (j := 3) hib 0) (Grow.refl _).drew) rfl
          have HG3 : Hid (Grow w (World.drew (World.setCell wr ⟨w.heap.size + 1, 3, none⟩ (.int .i64 0)))) := (Grow.setCell hg (p := ⟨w.heap.size + 1, 3, none⟩) (by simp) (.int .i64 0)).trans (Grow.refl _).drew
          have hk3 : (World.drew (World.setCell wr ⟨w.heap.size + 1, 3, none⟩ (.int .i64 0))).cell? ⟨w.heap.size, 0, none⟩ = some (.int .i64 1) := by go_simp
          have HK3 := Lib.hid hk3
          clear hib hg hk hk3
          go_wp2
          go_region
          go_wp2
          go_roundw
          case rel => exact .inr (.inr (.inr (.inr (⟨rfl, rfl, HI2.out, HG3.out, HK3.out⟩))))
          case measure => simp [intOf]
        · have HIB := Lib.hid (IB.cast hib (show ([(0 : Int), (1 : Int), (0 : Int), (0 : Int)] : List Int) = gC 4 3 by kernel_rfl)); have HG := Lib.hid hg
          clear hib hg
          go_wp2
          go_roundw
          case rel => exact .inr ⟨rfl, HIB.out, HG.out, hk⟩
          case measure => simp [intOf]
set_option maxRecDepth 100000 in
set_option maxHeartbeats 16000000 in
theorem coord4_4 (w : World) : Calls Tryd.prog 14 #[.agg #[.int .i64 1], .slice none 0 0, .int .i64 4] w (CoQ 4 4 w) := by
  have hmk : ∀ w : World, (Instr.makeSlice 22 (.int .i64 4) (.int .i64 4)).run Tryd.prog w = .ok (.slice (some ⟨w.heap.size, 0, none⟩) 4 4) (w.alloc (.cells (madeCells #[.int .i64 0] 4) 3)) := fun w => run_make_row' (P := Tryd.prog) 22 3 (.int .i64 0) 8 undI infoI rfl .i64 .i64 4 (by omega) (by omega) w
  have heq : ∀ w, (binOp .eql 22 (.slice none 0 0) (.slice none 0 0)).run Tryd.prog w = .ok (.bool true) w := fun w => by simp only [binOp]; simp [run_equal_slice_nil (P := Tryd.prog) w 22 3 none 0 0 undI]
  have HG0 := Lib.hid (((Grow.refl w).alloc (.cells #[.int .i64 1] 40)).alloc (.cells (madeCells #[.int .i64 0] 4) 3))
  have HI0 := Lib.hid (IB.made (w.alloc (.cells #[.int .i64 1] 40)) 4)
  rw [show (w.alloc (.cells #[.int .i64 1] 40)).heap.size = w.heap.size + 1 by simp] at HI0
  have kn : ((w.alloc (.cells #[.int .i64 1] 40)).alloc (.cells (madeCells #[.int .i64 0] 4) 3)).cell? ⟨w.heap.size, 0, none⟩ = some (.int .i64 1) := by go_simp
  go_enter Tryd.func14, Tryd.ntmps14
  go_wp2
  clear hmk heq
  generalize (w.alloc (.cells #[.int .i64 1] 40)).alloc (.cells (madeCells #[.int .i64 0] 4) 3) = W0 at *
  have hlq := cell_ltH kn
  go_loopw [2, 8] (fun pos n wr => (n = .int .i64 0 ∧ pos = .int .i64 4 ∧ wr = W0) ∨ (n = .int .i64 1 ∧ IB (w.heap.size + 1) (gC 4 4) wr ∧ Grow w wr ∧ wr.cell? ⟨w.heap.size, 0, none⟩ = some (.int .i64 1))) (fun _ n _ => (1 - intOf n).toNat)
  case atStart => exact .inl ⟨rfl, rfl, rfl⟩
  case round =>
    rcases hrel with ⟨rfl, rfl, rfl⟩ | ⟨rfl, hib, hg, hkn⟩
    case inr =>
      have HI := Lib.hid hib; have HG := Lib.hid hg
      clear hib hg kn
      go_wp2
      go_ret
      exact ⟨_, rfl, HG.out, HI.out⟩
    case inl =>
      go_wp2
      refine wp_normal ?_
      go_region_law (go_simp; go_at_call 22; refine (rot4_zero _ _ _ _ true _ (IB.up _ _ HI0.out (by repeat (first | exact Grow.refl _ | refine Grow.drew ?_ | refine Grow.alloc ?_ _))) (by simp) (by omega)).mono ?_; rintro e w2 h2; obtain ⟨rfl, hg2, hz2⟩ := TuQ.zero h2; have HZ := Lib.hid hz2; have HG2 := Lib.hid (GX.grow (w := w) hg2 (HG0.out.trans (by repeat (first | exact Grow.refl _ | refine Grow.drew ?_ | refine Grow.alloc ?_ _))) (fun k hk => by omega)); have k2 := (hg2.cell _ 0 (by simpa using hlq) (by simp)).trans kn; clear h2 hg2 hz2)
      have HZ0 := Lib.hid (IB.cast HZ.out (show List.replicate 4 (0 : Int) = [(0 : Int), (0 : Int), (0 : Int), (0 : Int)] from rfl))
      have HK2 := Lib.hid k2
      clear k2
      go_wp2
      go_loopw [10, 11] (fun i e wq => (i = .int .i64 0 ∧ e = .int .i64 4 ∧ IB (w.heap.size + 1) [(0 : Int), (0 : Int), (0 : Int), (0 : Int)] wq ∧ Grow w wq ∧ wq.cell? ⟨w.heap.size, 0, none⟩ = some (.int .i64 1)) ∨ (i = .int .i64 1 ∧ e = .int .i64 2 ∧ IB (w.heap.size + 1) [(0 : Int), (0 : Int), (0 : Int), (0 : Int)] wq ∧ Grow w wq ∧ wq.cell? ⟨w.heap.size, 0, none⟩ = some (.int .i64 1)) ∨ (i = .int .i64 2 ∧ e = .int .i64 1 ∧ IB (w.heap.size + 1) [(0 : Int), (1 : Int), (0 : Int), (0 : Int)] wq ∧ Grow w wq ∧ wq.cell? ⟨w.heap.size, 0, none⟩ = some (.int .i64 1)) ∨ (i = .int .i64 3 ∧ e = .int .i64 0 ∧ IB (w.heap.size + 1) [(0 : Int), (1 : Int), (1 : Int), (0 : Int)] wq ∧ Grow w wq ∧ wq.cell? ⟨w.heap.size, 0, none⟩ = some (.int .i64 1)) ∨ (i = .int .i64 4 ∧ e = .int .i64 0 ∧ IB (w.heap.size + 1) [(0 : Int), (1 : Int), (1 : Int), (0 : Int)] wq ∧ Grow w wq ∧ wq.cell? ⟨w.heap.size, 0, none⟩ = some (.int .i64 1))) (fun i _ _ => (4 - intOf i).toNat)
      case atStart => exact .inl ⟨rfl, rfl, HZ0.out, HG2.out, HK2.out⟩
      case round =>
        rcases hrel with ⟨rfl, rfl, hib, hg, hk⟩ | ⟨rfl, rfl, hib, hg, hk⟩ | ⟨rfl, rfl, hib, hg, hk⟩ | ⟨rfl, rfl, hib, hg, hk⟩ | ⟨rfl, rfl, hib, hg, hk⟩
        · have HIB := Lib.hid hib; have HG := Lib.hid hg
          obtain ⟨cc, ff⟩ := hib.2 0 0 rfl
          have HI2 : Hid (IB (w.heap.size + 1) [(0 : Int), (0 : Int), (0 : Int), (0 : Int)] (World.drew (World.setCell wr ⟨w.heap.size + 1, 0, none⟩ (.int .i64 0)))) := IB.cast (show IB (w.heap.size + 1) (([(0 : Int), (0 : Int), (0 : Int), (0 : Int)] : List Int).set 0 0) _ from IB.up _ _ (IB.set (j := 0) hib 0) (Grow.refl _).drew) rfl
          have HG3 : Hid (Grow w (World.drew (World.setCell wr ⟨w.heap.size + 1, 0, none⟩ (.int .i64 0)))) := (Grow.setCell hg (p := ⟨w.heap.size + 1, 0, none⟩) (by simp) (.int .i64 0)).trans (Grow.refl _).drew
          have hk3 : (World.drew (World.setCell wr ⟨w.heap.size + 1, 0, none⟩ (.int .i64 0))).cell? ⟨w.heap.size, 0, none⟩ = some (.int .i64 1) := by go_simp
          have HK3 := Lib.hid hk3
          clear hib hg hk hk3
          go_wp2
          go_region
          go_wp2
          go_roundw
          case rel => exact .inr (.inl ⟨rfl, rfl, HI2.out, HG3.out, HK3.out⟩)
          case measure => simp [intOf]
        · have HIB := Lib.hid hib; have HG := Lib.hid hg
          obtain ⟨cc, ff⟩ := hib.2 1 0 rfl
          have HI2 : Hid (IB (w.heap.size + 1) [(0 : Int), (1 : Int), (0 : Int), (0 : Int)] (World.drew (World.setCell wr ⟨w.heap.size + 1, 1, none⟩ (.int .i64 1)))) := IB.cast (show IB (w.heap.size + 1) (([(0 : Int), (0 : Int), (0 : Int), (0 : Int)] : List Int).set 1 1) _ from IB.up _ _ (IB.set (j := 1) hib 1) (Grow.refl _).drew) rfl
          have HG3 : Hid (Grow w (World.drew (World.setCell wr ⟨w.heap.size + 1, 1, none⟩ (.int .i64 1)))) := (Grow.setCell hg (p := ⟨w.heap.size + 1, 1, none⟩) (by simp) (.int .i64 1)).trans (Grow.refl _).drew
          have hk3 : (World.drew (World.setCell wr ⟨w.heap.size + 1, 1, none⟩ (.int .i64 1))).cell? ⟨w.heap.size, 0, none⟩ = some (.int .i64 1) := by go_simp
          have HK3 := Lib.hid hk3
          clear hib hg hk hk3
          go_wp2
          go_region
          go_wp2
          go_roundw
          case rel => exact .inr (.inr (.inl ⟨rfl, rfl, HI2.out, HG3.out, HK3.out⟩))
          case measure => simp [intOf]
        · have HIB := Lib.hid hib; have HG := Lib.hid hg
          obtain ⟨cc, ff⟩ := hib.2 2 0 rfl
          have HI2 : Hid (IB (w.heap.size + 1) [(0 : Int), (1 : Int), (1 : Int), (0 : Int)] (World.drew (World.setCell wr ⟨w.heap.size + 1, 2, none⟩ (.int .i64 1)))) := IB.cast (show IB (w.heap.size + 1) (([(0 : Int), (1 : Int), (0 : Int), (0 : Int)] : List Int).set 2 1) _ from IB.up _ _ (IB.set (j := 2) hib 1) (Grow.refl _).drew) rfl
          have HG3 : Hid (Grow w (World.drew (World.setCell wr ⟨w.heap.size + 1, 2, none⟩ (.int .i64 1)))) := (Grow.setCell hg (p := ⟨w.heap.size + 1, 2, none⟩) (by simp) (.int .i64 1)).trans (Grow.refl _).drew
          have hk3 : (World.drew (World.setCell wr ⟨w.heap.size + 1, 2, none⟩ (.int .i64 1))).cell? ⟨w.heap.size, 0, none⟩ = some (.int .i64 1) := by go_simp
          have HK3 := Lib.hid hk3
          clear hib hg hk hk3
          go_wp2
          go_region
          go_wp2
          go_roundw
          case rel => exact .inr (.inr (.inr (.inl ⟨rfl, rfl, HI2.out, HG3.out, HK3.out⟩)))
          case measure => simp [intOf]
        · have HIB := Lib.hid hib; have HG := Lib.hid hg
          obtain ⟨cc, ff⟩ := hib.2 3 0 rfl
          have HI2 : Hid (IB (w.heap.size + 1) [(0 : Int), (1 : Int), (1 : Int), (0 : Int)] (World.drew (World.setCell wr ⟨w.heap.size + 1, 3, none⟩ (.int .i64 0)))) := IB.cast (show IB (w.heap.size + 1) (([(0 : Int), (1 : Int), (1 : Int), (0 : Int)] : List Int).set 3 0) _ from IB.up _ _ (IB.set (j := 3) hib 0) (Grow.refl _).drew) rfl
          have HG3 : Hid (Grow w (World.drew (World.setCell wr ⟨w.heap.size + 1, 3, none⟩ (.int .i64 0)))) := (Grow.setCell hg (p := ⟨w.heap.size + 1, 3, none⟩) (by simp) (.int .i64 0)).trans (Grow.refl _).drew
          have hk3 : (World.drew (World.setCell wr ⟨w.heap.size + 1, 3, none⟩ (.int .i64 0))).cell? ⟨w.heap.size, 0, none⟩ = some (.int .i64 1) := by go_simp
          have HK3 := Lib.hid hk3
          clear hib hg hk hk3
          go_wp2
          go_region
          go_wp2
          go_roundw
          case rel => exact .inr (.inr (.inr (.inr (⟨rfl, rfl, HI2.out, HG3.out, HK3.out⟩))))
          case measure => simp [intOf]
        · have HIB := Lib.hid (IB.cast hib (show ([(0 : Int), (1 : Int), (1 : Int), (0 : Int)] : List Int) = gC 4 4 by kernel_rfl)); have HG := Lib.hid hg
          clear hib hg
          go_wp2
          go_roundw
          case rel => exact .inr ⟨rfl, HIB.out, HG.out, hk⟩
          case measure => simp [intOf]
set_option maxRecDepth 100000 in
set_option maxHeartbeats 16000000 in
theorem coord4_5 (w : World) : Calls Tryd.prog 14 #[.agg #[.int .i64 1], .slice none 0 0, .int .i64 5] w (CoQ 4 5 w) := by
  have hmk : ∀ w : World, (Instr.makeSlice 22 (.int .i64 4) (.int .i64 4)).run Tryd.prog w = .ok (.slice (some ⟨w.heap.size, 0, none⟩) 4 4) (w.alloc (.cells (madeCells #[.int .i64 0] 4) 3)) := fun w => run_make_row' (P := Tryd.prog) 22 3 (.int .i64 0) 8 undI infoI rfl .i64 .i64 4 (by omega) (by omega) w
  have heq : ∀ w, (binOp .eql 22 (.slice none 0 0) (.slice none 0 0)).run Tryd.prog w = .ok (.bool true) w := fun w => by simp only [binOp]; simp [run_equal_slice_nil (P := Tryd.prog) w 22 3 none 0 0 undI]
  have HG0 := Lib.hid (((Grow.refl w).alloc (.cells #[.int .i64 1] 40)).alloc (.cells (madeCells #[.int .i64 0] 4) 3))
  have HI0 := Lib.hid (IB.made (w.alloc (.cells #[.int .i64 1] 40)) 4)
  rw [show (w.alloc (.cells #[.int .i64 1] 40)).heap.size = w.heap.size + 1 by simp] at HI0
  have kn : ((w.alloc (.cells #[.int .i64 1] 40)).alloc (.cells (madeCells #[.int .i64 0] 4) 3)).cell? ⟨w.heap.size, 0, none⟩ = some (.int .i64 1) := by go_simp
  go_enter Tryd.func14, Tryd.ntmps14
  go_wp2
  clear hmk heq
  generalize (w.alloc (.cells #[.int .i64 1] 40)).alloc (.cells (madeCells #[.int .i64 0] 4) 3) = W0 at *
  have hlq := cell_ltH kn
  go_loopw [2, 8] (fun pos n wr => (n = .int .i64 0 ∧ pos = .int .i64 5 ∧ wr = W0) ∨ (n = .int .i64 1 ∧ IB (w.heap.size + 1) (gC 4 5) wr ∧ Grow w wr ∧ wr.cell? ⟨w.heap.size, 0, none⟩ = some (.int .i64 1))) (fun _ n _ => (1 - intOf n).toNat)
  case atStart => exact .inl ⟨rfl, rfl, rfl⟩
  case round =>
    rcases hrel with ⟨rfl, rfl, rfl⟩ | ⟨rfl, hib, hg, hkn⟩
    case inr =>
      have HI := Lib.hid hib; have HG := Lib.hid hg
      clear hib hg kn
      go_wp2
      go_ret
      exact ⟨_, rfl, HG.out, HI.out⟩
    case inl =>
      go_wp2
      refine wp_normal ?_
      go_region_law (go_simp; go_at_call 22; refine (rot4_zero _ _ _ _ true _ (IB.up _ _ HI0.out (by repeat (first | exact Grow.refl _ | refine Grow.drew ?_ | refine Grow.alloc ?_ _))) (by simp) (by omega)).mono ?_; rintro e w2 h2; obtain ⟨rfl, hg2, hz2⟩ := TuQ.zero h2; have HZ := Lib.hid hz2; have HG2 := Lib.hid (GX.grow (w := w) hg2 (HG0.out.trans (by repeat (first | exact Grow.refl _ | refine Grow.drew ?_ | refine Grow.alloc ?_ _))) (fun k hk => by omega)); have k2 := (hg2.cell _ 0 (by simpa using hlq) (by simp)).trans kn; clear h2 hg2 hz2)
      have HZ0 := Lib.hid (IB.cast HZ.out (show List.replicate 4 (0 : Int) = [(0 : Int), (0 : Int), (0 : Int), (0 : Int)] from rfl))
      have HK2 := Lib.hid k2
      clear k2
      go_wp2
      go_loopw [10, 11] (fun i e wq => (i = .int .i64 0 ∧ e = .int .i64 5 ∧ IB (w.heap.size + 1) [(0 : Int), (0 : Int), (0 : Int), (0 : Int)] wq ∧ Grow w wq ∧ wq.cell? ⟨w.heap.size, 0, none⟩ = some (.int .i64 1)) ∨ (i = .int .i64 1 ∧ e = .int .i64 2 ∧ IB (w.heap.size + 1) [(1 : Int), (0 : Int), (0 : Int), (0 : Int)] wq ∧ Grow w wq ∧ wq.cell? ⟨w.heap.size, 0, none⟩ = some (.int .i64 1)) ∨ (i = .int .i64 2 ∧ e = .int .i64 1 ∧ IB (w.heap.size + 1) [(1 : Int), (1 : Int), (0 : Int), (0 : Int)] wq ∧ Grow w wq ∧ wq.cell? ⟨w.heap.size, 0, none⟩ = some (.int .i64 1)) ∨ (i = .int .i64 3 ∧ e = .int .i64 0 ∧ IB (w.heap.size + 1) [(1 : Int), (1 : Int), (1 : Int), (0 : Int)] wq ∧ Grow w wq ∧ wq.cell? ⟨w.heap.size, 0, none⟩ = some (.int .i64 1)) ∨ (i = .int .i64 4 ∧ e = .int .i64 0 ∧ IB (w.heap.size + 1) [(1 : Int), (1 : Int), (1 : Int), (0 : Int)] wq ∧ Grow w wq ∧ wq.cell? ⟨w.heap.size, 0, none⟩ = some (.int .i64 1))) (fun i _ _ => (4 - intOf i).toNat)
      case atStart => exact .inl ⟨rfl, rfl, HZ0.out, HG2.out, HK2.out⟩
      case round =>
        rcases hrel with ⟨rfl, rfl, hib, hg, hk⟩ | ⟨rfl, rfl, hib, hg, hk⟩ | ⟨rfl, rfl, hib, hg, hk⟩ | ⟨rfl, rfl, hib, hg, hk⟩ | ⟨rfl, rfl, hib, hg, hk⟩
        · have HIB := Lib.hid hib; have HG := Lib.hid hg
          obtain ⟨cc, ff⟩ := hib.2 0 0 rfl
          have HI2 : Hid (IB (w.heap.size + 1) [(1 : Int), (0 : Int), (0 : Int), (0 : Int)] (World.drew (World.setCell wr ⟨w.heap.size + 1, 0, none⟩ (.int .i64 1)))) := IB.cast (show IB (w.heap.size + 1) (([(0 : Int), (0 : Int), (0 : Int), (0 : Int)] : List Int).set 0 1) _ from IB.up _ _ (IB.set (j := 0) hib 1) (Grow.refl _).drew) rfl
          have HG3 : Hid (Grow w (World.drew (World.setCell wr ⟨w.heap.size + 1, 0, none⟩ (.int .i64 1)))) := (Grow.setCell hg (p := ⟨w.heap.size + 1, 0, none⟩) (by simp) (.int .i64 1)).trans (Grow.refl _).drew
          have hk3 : (World.drew (World.setCell wr ⟨w.heap.size + 1, 0, none⟩ (.int .i64 1))).cell? ⟨w.heap.size, 0, none⟩ = some (.int .i64 1) := by go_simp
          have HK3 := Lib.hid hk3
          clear hib hg hk hk3
          go_wp2
          go_region
          go_wp2
          go_roundw
          case rel => exact .inr (.inl ⟨rfl, rfl, HI2.out, HG3.out, HK3.out⟩)
          case measure => simp [intOf]
        · have HIB := Lib.hid hib; have HG := Lib.hid hg
          obtain ⟨cc, ff⟩ := hib.2 1 0 rfl
          have HI2 : Hid (IB (w.heap.size + 1) [(1 : Int), (1 : Int), (0 : Int), (0 : Int)] (World.drew (World.setCell wr ⟨w.heap.size + 1, 1, none⟩ (.int .i64 1)))) := IB.cast (show IB (w.heap.size + 1) (([(1 : Int), (0 : Int), (0 : Int), (0 : Int)] : List Int).set 1 1) _ from IB.up _ _ (IB.set (j := 1) hib 1) (Grow.refl _).drew) rfl
          have HG3 : Hid (Grow w (World.drew (World.setCell wr ⟨w.heap.size + 1, 1, none⟩ (.int .i64 1)))) := (Grow.setCell hg (p := ⟨w.heap.size + 1, 1, none⟩) (by simp) (.int .i64 1)).trans (Grow.refl _).drew
          have hk3 : (World.drew (World.setCell wr ⟨w.heap.size + 1, 1, none⟩ (.int .i64 1))).cell? ⟨w.heap.size, 0, none⟩ = some (.int .i64 1) := by go_simp
          have HK3 := Lib.hid hk3
          clear hib hg hk hk3
          go_wp2
          go_region
          go_wp2
          go_roundw
          case rel => exact .inr (.inr (.inl ⟨rfl, rfl, HI2.out, HG3.out, HK3.out⟩))
          case measure => simp [intOf]
        · have HIB := Lib.hid hib; have HG := Lib.hid hg
          obtain ⟨cc, ff⟩ := hib.2 2 0 rfl
          have HI2 : Hid (IB (w.heap.size + 1) [(1 : Int), (1 : Int), (1 : Int), (0 : Int)] (World.drew (World.setCell wr ⟨w.heap.size + 1, 2, none⟩ (.int .i64 1)))) := IB.cast (show IB (w.heap.size + 1) (([(1 : Int), (1 : Int), (0 : Int), (0 : Int)] : List Int).set 2 1) _ from IB.up _ _ (IB.set (j := 2) hib 1) (Grow.refl _).drew) rfl
          have HG3 : Hid (Grow w (World.drew (World.setCell wr ⟨w.heap.size + 1, 2, none⟩ (.int .i64 1)))) := (Grow.setCell hg (p := ⟨w.heap.size + 1, 2, none⟩) (by simp) (.int .i64 1)).trans (Grow.refl _).drew
          have hk3 : (World.drew (World.setCell wr ⟨w.heap.size + 1, 2, none⟩ (.int .i64 1))).cell? ⟨w.heap.size, 0, none⟩ = some (.int .i64 1) := by go_simp
          have HK3 := Lib.hid hk3
          clear hib hg hk hk3
          go_wp2
          go_region
          go_wp2
          go_roundw
          case rel => exact .inr (.inr (.inr (.inl ⟨rfl, rfl, HI2.out, HG3.out, HK3.out⟩)))
          case measure => simp [intOf]
        · have HIB := Lib.hid hib; have HG := Lib.hid hg
          obtain ⟨cc, ff⟩ := hib.2 3 0 rfl
          have HI2 : Hid (IB (w.heap.size + 1) [(1 : Int), (1 : Int), (1 : Int), (0 : Int)] (World.drew (World.setCell wr ⟨w.heap.size + 1, 3, none⟩ (.int .i64 0)))) := IB.cast (show IB (w.heap.size + 1) (([(1 : Int), (1 : Int), (1 : Int), (0 : Int)] : List Int).set 3 0) _ from IB.up _ _ (IB.set (j := 3) hib 0) (Grow.refl _).drew) rfl
          have HG3 : Hid (Grow w (World.drew (World.setCell wr ⟨w.heap.size + 1, 3, none⟩ (.int .i64 0)))) := (Grow.setCell hg (p := ⟨w.heap.size + 1, 3, none⟩) (by simp) (.int .i64 0)).trans (Grow.refl _).drew
          have hk3 : (World.drew (World.setCell wr ⟨w.heap.size + 1, 3, none⟩ (.int .i64 0))).cell? ⟨w.heap.size, 0, none⟩ = some (.int .i64 1) := by go_simp
          have HK3 := Lib.hid hk3
          clear hib hg hk hk3
          go_wp2
          go_region
          go_wp2
          go_roundw
          case rel => exact .inr (.inr (.inr (.inr (⟨rfl, rfl, HI2.out, HG3.out, HK3.out⟩))))
          case measure => simp [intOf]
        · have HIB := Lib.hid (IB.cast hib (show ([(1 : Int), (1 : Int), (1 : Int), (0 : Int)] : List Int) = gC 4 5 by kernel_rfl)); have HG := Lib.hid hg
          clear hib hg
          go_wp2
          go_roundw
          case rel => exact .inr ⟨rfl, HIB.out, HG.out, hk⟩
          case measure => simp [intOf]
set_option maxRecDepth 100000 in
set_option maxHeartbeats 16000000 in
theorem coord4_6 (w : World) : Calls Tryd.prog 14 #[.agg #[.int .i64 1], .slice none 0 0, .int .i64 6] w (CoQ 4 6 w) := by
  have hmk : ∀ w : World, (Instr.makeSlice 22 (.int .i64 4) (.int .i64 4)).run Tryd.prog w = .ok (.slice (some ⟨w.heap.size, 0, none⟩) 4 4) (w.alloc (.cells (madeCells #[.int .i64 0] 4) 3)) := fun w => run_make_row' (P := Tryd.prog) 22 3 (.int .i64 0) 8 undI infoI rfl .i64 .i64 4 (by omega) (by omega) w
  have heq : ∀ w, (binOp .eql 22 (.slice none 0 0) (.slice none 0 0)).run Tryd.prog w = .ok (.bool true) w := fun w => by simp only [binOp]; simp [run_equal_slice_nil (P := Tryd.prog) w 22 3 none 0 0 undI]
  have HG0 := Lib.hid (((Grow.refl w).alloc (.cells #[.int .i64 1] 40)).alloc (.cells (madeCells #[.int .i64 0] 4) 3))
  have HI0 := Lib.hid (IB.made (w.alloc (.cells #[.int .i64 1] 40)) 4)
  rw [show (w.alloc (.cells #[.int .i64 1] 40)).heap.size = w.heap.size + 1 by simp] at HI0
  have kn : ((w.alloc (.cells #[.int .i64 1] 40)).alloc (.cells (madeCells #[.int .i64 0] 4) 3)).cell? ⟨w.heap.size, 0, none⟩ = some (.int .i64 1) := by go_simp
  go_enter Tryd.func14, Tryd.ntmps14
  go_wp2
  clear hmk heq
  generalize (w.alloc (.cells #[.int .i64 1] 40)).alloc (.cells (madeCells #[.int .i64 0] 4) 3) = W0 at *
  have hlq := cell_ltH kn
  go_loopw [2, 8] (fun pos n wr => (n = .int .i64 0 ∧ pos = .int .i64 6 ∧ wr = W0) ∨ (n = .int .i64 1 ∧ IB (w.heap.size + 1) (gC 4 6) wr ∧ Grow w wr ∧ wr.cell? ⟨w.heap.size, 0, none⟩ = some (.int .i64 1))) (fun _ n _ => (1 - intOf n).toNat)
  case atStart => exact .inl ⟨rfl, rfl, rfl⟩
  case round =>
    rcases hrel with ⟨rfl, rfl, rfl⟩ | ⟨rfl, hib, hg, hkn⟩
    case inr =>
      have HI := Lib.hid hib; have HG := Lib.hid hg
      clear hib hg kn
      go_wp2
      go_ret
      exact ⟨_, rfl, HG.out, HI.out⟩
    case inl =>
      go_wp2
      refine wp_normal ?_
      go_region_law (go_simp; go_at_call 22; refine (rot4_zero _ _ _ _ true _ (IB.up _ _ HI0.out (by repeat (first | exact Grow.refl _ | refine Grow.drew ?_ | refine Grow.alloc ?_ _))) (by simp) (by omega)).mono ?_; rintro e w2 h2; obtain ⟨rfl, hg2, hz2⟩ := TuQ.zero h2; have HZ := Lib.hid hz2; have HG2 := Lib.hid (GX.grow (w := w) hg2 (HG0.out.trans (by repeat (first | exact Grow.refl _ | refine Grow.drew ?_ | refine Grow.alloc ?_ _))) (fun k hk => by omega)); have k2 := (hg2.cell _ 0 (by simpa using hlq) (by simp)).trans kn; clear h2 hg2 hz2)
      have HZ0 := Lib.hid (IB.cast HZ.out (show List.replicate 4 (0 : Int) = [(0 : Int), (0 : Int), (0 : Int), (0 : Int)] from rfl))
      have HK2 := Lib.hid k2
      clear k2
      go_wp2
      go_loopw [10, 11] (fun i e wq => (i = .int .i64 0 ∧ e = .int .i64 6 ∧ IB (w.heap.size + 1) [(0 : Int), (0 : Int), (0 : Int), (0 : Int)] wq ∧ Grow w wq ∧ wq.cell? ⟨w.heap.size, 0, none⟩ = some (.int .i64 1)) ∨ (i = .int .i64 1 ∧ e = .int .i64 3 ∧ IB (w.heap.size + 1) [(1 : Int), (0 : Int), (0 : Int), (0 : Int)] wq ∧ Grow w wq ∧ wq.cell? ⟨w.heap.size, 0, none⟩ = some (.int .i64 1)) ∨ (i = .int .i64 2 ∧ e = .int .i64 1 ∧ IB (w.heap.size + 1) [(1 : Int), (0 : Int), (0 : Int), (0 : Int)] wq ∧ Grow w wq ∧ wq.cell? ⟨w.heap.size, 0, none⟩ = some (.int .i64 1)) ∨ (i = .int .i64 3 ∧ e = .int .i64 0 ∧ IB (w.heap.size + 1) [(1 : Int), (0 : Int), (1 : Int), (0 : Int)] wq ∧ Grow w wq ∧ wq.cell? ⟨w.heap.size, 0, none⟩ = some (.int .i64 1)) ∨ (i = .int .i64 4 ∧ e = .int .i64 0 ∧ IB (w.heap.size + 1) [(1 : Int), (0 : Int), (1 : Int), (0 : Int)] wq ∧ Grow w wq ∧ wq.cell? ⟨w.heap.size, 0, none⟩ = some (.int .i64 1))) (fun i _ _ => (4 - intOf i).toNat)
      case atStart => exact .inl ⟨rfl, rfl, HZ0.out, HG2.out, HK2.out⟩
      case round =>
        rcases hrel with ⟨rfl, rfl, hib, hg, hk⟩ | ⟨rfl, rfl, hib, hg, hk⟩ | ⟨rfl, rfl, hib, hg, hk⟩ | ⟨rfl, rfl, hib, hg, hk⟩ | ⟨rfl, rfl, hib, hg, hk⟩
        · have HIB := Lib.hid hib; have HG := Lib.hid hg
          obtain ⟨cc, ff⟩ := hib.2 0 0 rfl
          have HI2 : Hid (IB (w.heap.size + 1) [(1 : Int), (0 : Int), (0 : Int), (0 : Int)] (World.drew (World.setCell wr ⟨w.heap.size + 1, 0, none⟩ (.int .i64 1)))) := IB.cast (show IB (w.heap.size + 1) (([(0 : Int), (0 : Int), (0 : Int), (0 : Int)] : List Int).set 0 1) _ from IB.up _ _ (IB.set (j := 0) hib 1) (Grow.refl _).drew) rfl
          have HG3 : Hid (Grow w (World.drew (World.setCell wr ⟨w.heap.size + 1, 0, none⟩ (.int .i64 1)))) := (Grow.setCell hg (p := ⟨w.heap.size + 1, 0, none⟩) (by simp) (.int .i64 1)).trans (Grow.refl _).drew
          have hk3 : (World.drew (World.setCell wr ⟨w.heap.size + 1, 0, none⟩ (.int .i64 1))).cell? ⟨w.heap.size, 0, none⟩ = some (.int .i64 1) := by go_simp
          have HK3 := Lib.hid hk3
          clear hib hg hk hk3
          go_wp2
          go_region
          go_wp2
          go_roundw
          case rel => exact .inr (.inl ⟨rfl, rfl, HI2.out, HG3.out, HK3.out⟩)
          case measure => simp [intOf]
        · have HIB := Lib.hid hib; have HG := Lib.hid hg
          obtain ⟨cc, ff⟩ := hib.2 1 0 rfl
          have HI2 : Hid (IB (w.heap.size + 1) [(1 : Int), (0 : Int), (0 : Int), (0 : Int)] (World.drew (World.setCell wr ⟨w.heap.size + 1, 1, none⟩ (.int .i64 0)))) := IB.cast (show IB (w.heap.size + 1) (([(1 : Int), (0 : Int), (0 : Int), (0 : Int)] : List Int).set 1 0) _ from IB.up _ _ (IB.set (j := 1) hib 0) (Grow.refl _).drew) rfl
          have HG3 : Hid (Grow w (World.drew (World.setCell wr ⟨w.heap.size + 1, 1, none⟩ (.int .i64 0)))) := (Grow.setCell hg (p := ⟨w.heap.size + 1, 1, none⟩) (by simp) (.int .i64 0)).trans (Grow.refl _).drew
          have hk3 : (World.drew (World.setCell wr ⟨w.heap.size + 1, 1, none⟩ (.int .i64 0))).cell? ⟨w.heap.size, 0, none⟩ = some (.int .i64 1) := by go_simp
          have HK3 := Lib.hid hk3
          clear hib hg hk hk3
          go_wp2
          go_region
          go_wp2
          go_roundw
          case rel => exact .inr (.inr (.inl ⟨rfl, rfl, HI2.out, HG3.out, HK3.out⟩))
          case measure => simp [intOf]
        · have HIB := Lib.hid hib; have HG := Lib.hid hg
          obtain ⟨cc, ff⟩ := hib.2 2 0 rfl
          have HI2 : Hid (IB (w.heap.size + 1) [(1 : Int), (0 : Int), (1 : Int), (0 : Int)] (World.drew (World.setCell wr ⟨w.heap.size + 1, 2, none⟩ (.int .i64 1)))) := IB.cast (show IB (w.heap.size + 1) (([(1 : Int), (0 : Int), (0 : Int), (0 : Int)] : List Int).set 2 1) _ from IB.up _ _ (IB.set (j := 2) hib 1) (Grow.refl _).drew) rfl
          have HG3 : Hid (Grow w (World.drew (World.setCell wr ⟨w.heap.size + 1, 2, none⟩ (.int .i64 1)))) := (Grow.setCell hg (p := ⟨w.heap.size + 1, 2, none⟩) (by simp) (.int .i64 1)).trans (Grow.refl _).drew
          have hk3 : (World.drew (World.setCell wr ⟨w.heap.size + 1, 2, none⟩ (.int .i64 1))).cell? ⟨w.heap.size, 0, none⟩ = some (.int .i64 1) := by go_simp
          have HK3 := Lib.hid hk3
          clear hib hg hk hk3
          go_wp2
          go_region
          go_wp2
          go_roundw
          case rel => exact .inr (.inr (.inr (.inl ⟨rfl, rfl, HI2.out, HG3.out, HK3.out⟩)))
          case measure => simp [intOf]
        · have HIB := Lib.hid hib; have HG := Lib.hid hg
          obtain ⟨cc, ff⟩ := hib.2 3 0 rfl
          have HI2 : Hid (IB (w.heap.size + 1) [(1 : Int), (0 : Int), (1 : Int), (0 : Int)] (World.drew (World.setCell wr ⟨w.heap.size + 1, 3, none⟩ (.int .i64 0)))) := IB.cast (show IB (w.heap.size + 1) (([(1 : Int), (0 : Int), (1 : Int), (0 : Int)] : List Int).set 3 0) _ from IB.up _ _ (IB.set (j := 3) hib 0) (Grow.refl _).drew) rfl
          have HG3 : Hid (Grow w (World.drew (World.setCell wr ⟨w.heap.size + 1, 3, none⟩ (.int .i64 0)))) := (Grow.setCell hg (p := ⟨w.heap.size + 1, 3, none⟩) (by simp) (.int .i64 0)).trans (Grow.refl _).drew
          have hk3 : (World.drew (World.setCell wr ⟨w.heap.size + 1, 3, none⟩ (.int .i64 0))).cell? ⟨w.heap.size, 0, none⟩ = some (.int .i64 1) := by go_simp
          have HK3 := Lib.hid hk3
          clear hib hg hk hk3
          go_wp2
          go_region
          go_wp2
          go_roundw
          case rel => exact .inr (.inr (.inr (.inr (⟨rfl, rfl, HI2.out, HG3.out, HK3.out⟩))))
          case measure => simp [intOf]
        · have HIB := Lib.hid (IB.cast hib (show ([(1 : Int), (0 : Int), (1 : Int), (0 : Int)] : List Int) = gC 4 6 by kernel_rfl)); have HG := Lib.hid hg
          clear hib hg
          go_wp2
          go_roundw
          case rel => exact .inr ⟨rfl, HIB.out, HG.out, hk⟩
          case measure => simp [intOf]
set_option maxRecDepth 100000 in
set_option maxHeartbeats 16000000 in
theorem coord4_7 (w : World) : Calls Tryd.prog 14 #[.agg #[.int .i64 1], .slice none 0 0, .int .i64 7] w (CoQ 4 7 w) := by
  have hmk : ∀ w : World, (Instr.makeSlice 22 (.int .i64 4) (.int .i64 4)).run Tryd.prog w = .ok (.slice (some ⟨w.heap.size, 0, none⟩) 4 4) (w.alloc (.cells (madeCells #[.int .i64 0] 4) 3)) := fun w => run_make_row' (P := Tryd.prog) 22 3 (.int .i64 0) 8 undI infoI rfl .i64 .i64 4 (by omega) (by omega) w
  have heq : ∀ w, (binOp .eql 22 (.slice none 0 0) (.slice none 0 0)).run Tryd.prog w = .ok (.bool true) w := fun w => by simp only [binOp]; simp [run_equal_slice_nil (P := Tryd.prog) w 22 3 none 0 0 undI]
  have HG0 := Lib.hid (((Grow.refl w).alloc (.cells #[.int .i64 1] 40)).alloc (.cells (madeCells #[.int .i64 0] 4) 3))
  have HI0 := Lib.hid (IB.made (w.alloc (.cells #[.int .i64 1] 40)) 4)
  rw [show (w.alloc (.cells #[.int .i64 1] 40)).heap.size = w.heap.size + 1 by simp] at HI0
  have kn : ((w.alloc (.cells #[.int .i64 1] 40)).alloc (.cells (madeCells #[.int .i64 0] 4) 3)).cell? ⟨w.heap.size, 0, none⟩ = some (.int .i64 1) := by go_simp
  go_enter Tryd.func14, Tryd.ntmps14
  go_wp2
  clear hmk heq
  generalize (w.alloc (.cells #[.int .i64 1] 40)).alloc (.cells (madeCells #[.int .i64 0] 4) 3) = W0 at *
  have hlq := cell_ltH kn
  go_loopw [2, 8] (fun pos n wr => (n = .int .i64 0 ∧ pos = .int .i64 7 ∧ wr = W0) ∨ (n = .int .i64 1 ∧ IB (w.heap.size + 1) (gC 4 7) wr ∧ Grow w wr ∧ wr.cell? ⟨w.heap.size, 0, none⟩ = some (.int .i64 1))) (fun _ n _ => (1 - intOf n).toNat)
  case atStart => exact .inl ⟨rfl, rfl, rfl⟩
  case round =>
    rcases hrel with ⟨rfl, rfl, rfl⟩ | ⟨rfl, hib, hg, hkn⟩
    case inr =>
      have HI := Lib.hid hib; have HG := Lib.hid hg
      clear hib hg kn
      go_wp2
      go_ret
      exact ⟨_, rfl, HG.out, HI.out⟩
    case inl =>
      go_wp2
      refine wp_normal ?_
      go_region_law (go_simp; go_at_call 22; refine (rot4_zero _ _ _ _ true _ (IB.up _ _ HI0.out (by repeat (first | exact Grow.refl _ | refine Grow.drew ?_ | refine Grow.alloc ?_ _))) (by simp) (by omega)).mono ?_; rintro e w2 h2; obtain ⟨rfl, hg2, hz2⟩ := TuQ.zero h2; have HZ := Lib.hid hz2; have HG2 := Lib.hid (GX.grow (w := w) hg2 (HG0.out.trans (by repeat (first | exact Grow.refl _ | refine Grow.drew ?_ | refine Grow.alloc ?_ _))) (fun k hk => by omega)); have k2 := (hg2.cell _ 0 (by simpa using hlq) (by simp)).trans kn; clear h2 hg2 hz2)
      have HZ0 := Lib.hid (IB.cast HZ.out (show List.replicate 4 (0 : Int) = [(0 : Int), (0 : Int), (0 : Int), (0 : Int)] from rfl))
      have HK2 := Lib.hid k2
      clear k2
      go_wp2
      go_loopw [10, 11] (fun i e wq => (i = .int .i64 0 ∧ e = .int .i64 7 ∧ IB (w.heap.size + 1) [(0 : Int), (0 : Int), (0 : Int), (0 : Int)] wq ∧ Grow w wq ∧ wq.cell? ⟨w.heap.size, 0, none⟩ = some (.int .i64 1)) ∨ (i = .int .i64 1 ∧ e = .int .i64 3 ∧ IB (w.heap.size + 1) [(0 : Int), (0 : Int), (0 : Int), (0 : Int)] wq ∧ Grow w wq ∧ wq.cell? ⟨w.heap.size, 0, none⟩ = some (.int .i64 1)) ∨ (i = .int .i64 2 ∧ e = .int .i64 1 ∧ IB (w.heap.size + 1) [(0 : Int), (0 : Int), (0 : Int), (0 : Int)] wq ∧ Grow w wq ∧ wq.cell? ⟨w.heap.size, 0, none⟩ = some (.int .i64 1)) ∨ (i = .int .i64 3 ∧ e = .int .i64 0 ∧ IB (w.heap.size + 1) [(0 : Int), (0 : Int), (1 : Int), (0 : Int)] wq ∧ Grow w wq ∧ wq.cell? ⟨w.heap.size, 0, none⟩ = some (.int .i64 1)) ∨ (i = .int .i64 4 ∧ e = .int .i64 0 ∧ IB (w.heap.size + 1) [(0 : Int), (0 : Int), (1 : Int), (0 : Int)] wq ∧ Grow w wq ∧ wq.cell? ⟨w.heap.size, 0, none⟩ = some (.int .i64 1))) (fun i _ _ => (4 - intOf i).toNat)
      case atStart => exact .inl ⟨rfl, rfl, HZ0.out, HG2.out, HK2.out⟩
      case round =>
        rcases hrel with ⟨rfl, rfl, hib, hg, hk⟩ | ⟨rfl, rfl, hib, hg, hk⟩ | ⟨rfl, rfl, hib, hg, hk⟩ | ⟨rfl, rfl, hib, hg, hk⟩ | ⟨rfl, rfl, hib, hg, hk⟩
        · have HIB := Lib.hid hib; have HG := Lib.hid hg
          obtain ⟨cc, ff⟩ := hib.2 0 0 rfl
          have HI2 : Hid (IB (w.heap.size + 1) [(0 : Int), (0 : Int), (0 : Int), (0 : Int)] (World.drew (World.setCell wr ⟨w.heap.size + 1, 0, none⟩ (.int .i64 0)))) := IB.cast (show IB (w.heap.size + 1) (([(0 : Int), (0 : Int), (0 : Int), (0 : Int)] : List Int).set 0 0) _ from IB.up _ _ (IB.set (j := 0) hib 0) (Grow.refl _).drew) rfl
          have HG3 : Hid (Grow w (World.drew (World.setCell wr ⟨w.heap.size + 1, 0, none⟩ (.int .i64 0)))) := (Grow.setCell hg (p := ⟨w.heap.size + 1, 0, none⟩) (by simp) (.int .i64 0)).trans (Grow.refl _).drew
          have hk3 : (World.drew (World.setCell wr ⟨w.heap.size + 1, 0, none⟩ (.int .i64 0))).cell? ⟨w.heap.size, 0, none⟩ = some (.int .i64 1) := by go_simp
          have HK3 := Lib.hid hk3
          clear hib hg hk hk3
          go_wp2
          go_region
          go_wp2
          go_roundw
          case rel => exact .inr (.inl ⟨rfl, rfl, HI2.out, HG3.out, HK3.out⟩)
          case measure => simp [intOf]
        · have HIB := Lib.hid hib; have HG := Lib.hid hg
          obtain ⟨cc, ff⟩ := hib.2 1 0 rfl
          have HI2 : Hid (IB (w.heap.size + 1) [(0 : Int), (0 : Int), (0 : Int), (0 : Int)] (World.drew (World.setCell wr ⟨w.heap.size + 1, 1, none⟩ (.int .i64 0)))) := IB.cast (show IB (w.heap.size + 1) (([(0 : Int), (0 : Int), (0 : Int), (0 : Int)] : List Int).set 1 0) _ from IB.up _ _ (IB.set (j := 1) hib 0) (Grow.refl _).drew) rfl
          have HG3 : Hid (Grow w (World.drew (World.setCell wr ⟨w.heap.size + 1, 1, none⟩ (.int .i64 0)))) := (Grow.setCell hg (p := ⟨w.heap.size + 1, 1, none⟩) (by simp) (.int .i64 0)).trans (Grow.refl _).drew
          have hk3 : (World.drew (World.setCell wr ⟨w.heap.size + 1, 1, none⟩ (.int .i64 0))).cell? ⟨w.heap.size, 0, none⟩ = some (.int .i64 1) := by go_simp
          have HK3 := Lib.hid hk3
          clear hib hg hk hk3
          go_wp2
          go_region
          go_wp2
          go_roundw
          case rel => exact .inr (.inr (.inl ⟨rfl, rfl, HI2.out, HG3.out, HK3.out⟩))
          case measure => simp [intOf]
        · have HIB := Lib.hid hib; have HG := Lib.hid hg
          obtain ⟨cc, ff⟩ := hib.2 2 0 rfl
          have HI2 : Hid (IB (w.heap.size + 1) [(0 : Int), (0 : Int), (1 : Int), (0 : Int)] (World.drew (World.setCell wr ⟨w.heap.size + 1, 2, none⟩ (.int .i64 1)))) := IB.cast (show IB (w.heap.size + 1) (([(0 : Int), (0 : Int), (0 : Int), (0 : Int)] : List Int).set 2 1) _ from IB.up _ _ (IB.set (j := 2) hib 1) (Grow.refl _).drew) rfl
          have HG3 : Hid (Grow w (World.drew (World.setCell wr ⟨w.heap.size + 1, 2, none⟩ (.int .i64 1)))) := (Grow.setCell hg (p := ⟨w.heap.size + 1, 2, none⟩) (by simp) (.int .i64 1)).trans (Grow.refl _).drew
          have hk3 : (World.drew (World.setCell wr ⟨w.heap.size + 1, 2, none⟩ (.int .i64 1))).cell? ⟨w.heap.size, 0, none⟩ = some (.int .i64 1) := by go_simp
          have HK3 := Lib.hid hk3
          clear hib hg hk hk3
          go_wp2
          go_region
          go_wp2
          go_roundw
          case rel => exact .inr (.inr (.inr (.inl ⟨rfl, rfl, HI2.out, HG3.out, HK3.out⟩)))
          case measure => simp [intOf]
        · have HIB := Lib.hid hib; have HG := Lib.hid hg
          obtain ⟨cc, ff⟩ := hib.2 3 0 rfl
          have HI2 : Hid (IB (w.heap.size + 1) [(0 : Int), (0 : Int), (1 : Int), (0 : Int)] (World.drew (World.setCell wr ⟨w.heap.size + 1, 3, none⟩ (.int .i64 0)))) := IB.cast (show IB (w.heap.size + 1) (([(0 : Int), (0 : Int), (1 : Int), (0 : Int)] : List Int).set 3 0) _ from IB.up _ _ (IB.set (j := 3) hib 0) (Grow.refl _).drew) rfl
          have HG3 : Hid (Grow w (World.drew (World.setCell wr ⟨w.heap.size + 1, 3, none⟩ (.int .i64 0)))) := (Grow.setCell hg (p := ⟨w.heap.size + 1, 3, none⟩) (by simp) (.int .i64 0)).trans (Grow.refl _).drew
          have hk3 : (World.drew (World.setCell wr ⟨w.heap.size + 1, 3, none⟩ (.int .i64 0))).cell? ⟨w.heap.size, 0, none⟩ = some (.int .i64 1) := by go_simp
          have HK3 := Lib.hid hk3
          clear hib hg hk hk3
          go_wp2
          go_region
          go_wp2
          go_roundw
          case rel => exact .inr (.inr (.inr (.inr (⟨rfl, rfl, HI2.out, HG3.out, HK3.out⟩))))
          case measure => simp [intOf]
        · have HIB := Lib.hid (IB.cast hib (show ([(0 : Int), (0 : Int), (1 : Int), (0 : Int)] : List Int) = gC 4 7 by kernel_rfl)); have HG := Lib.hid hg
          clear hib hg
          go_wp2
          go_roundw
          case rel => exact .inr ⟨rfl, HIB.out, HG.out, hk⟩
          case measure => simp [intOf]
end Go.Proofs.YtkcpjndelcfmhaaDoor
