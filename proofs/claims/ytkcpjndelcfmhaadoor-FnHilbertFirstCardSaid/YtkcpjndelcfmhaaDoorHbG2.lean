import Derived.Test.YtkcpjndelcfmhaaDoorHbC
import Derived.Deep.OwnRows
import Derived.BigRegion
namespace Go.Proofs.YtkcpjndelcfmhaaDoor
open Go.ChangeShapes Go.WideShapes Go.ChangeAt Go.RowKit Go.GrowR
set_option linter.unusedVariables false
set_option linter.unusedSimpArgs false
set_option maxRecDepth 100000 in
set_option maxHeartbeats 16000000 in
theorem gray2_0 (w : World) : Calls Tryd.prog 6 #[.int .i64 2, .int .i64 0] w (CoQ 2 0 w) := by
  have hmk : ∀ w : World, (Instr.makeSlice 22 (.int .i64 2) (.int .i64 2)).run Tryd.prog w = .ok (.slice (some ⟨w.heap.size, 0, none⟩) 2 2) (w.alloc (.cells (madeCells #[.int .i64 0] 2) 3)) := fun w => run_make_row' (P := Tryd.prog) 22 3 (.int .i64 0) 8 undI infoI rfl .i64 .i64 2 (by omega) (by omega) w
  have HI0 := Lib.hid (IB.cast (IB.made w 2) (show List.replicate 2 (0 : Int) = [(0 : Int), (0 : Int)] from rfl))
  have HG0 := Lib.hid ((Grow.refl w).alloc (.cells (madeCells #[.int .i64 0] 2) 3))
  go_enter Tryd.func6, Tryd.ntmps6
  go_wp2
  clear hmk
  generalize w.alloc (.cells (madeCells #[.int .i64 0] 2) 3) = W0 at *
  go_loopw [11] (fun i wr => (i = .int .i64 0 ∧ IB w.heap.size [(0 : Int), (0 : Int)] wr ∧ Grow w wr) ∨ (i = .int .i64 1 ∧ IB w.heap.size [(0 : Int), (0 : Int)] wr ∧ Grow w wr) ∨ (i = .int .i64 2 ∧ IB w.heap.size [(0 : Int), (0 : Int)] wr ∧ Grow w wr)) (fun i _ => (2 - intOf i).toNat)
  case atStart => exact .inl ⟨rfl, HI0.out, HG0.out⟩
  case round =>
    rcases hrel with ⟨rfl, hib, hg⟩ | ⟨rfl, hib, hg⟩ | ⟨rfl, hib, hg⟩
    · obtain ⟨cc, ff⟩ := hib.2 0 0 rfl
      have HI2 : Hid (IB w.heap.size [(0 : Int), (0 : Int)] (World.drew (World.setCell wr ⟨w.heap.size, 0, none⟩ (.int .i64 0)))) := IB.cast (show IB w.heap.size (([(0 : Int), (0 : Int)] : List Int).set 0 0) _ from IB.up _ _ (IB.set (j := 0) hib 0) (Grow.refl _).drew) rfl
      have HG3 : Hid (Grow w (World.drew (World.setCell wr ⟨w.heap.size, 0, none⟩ (.int .i64 0)))) := (Grow.setCell hg (p := ⟨w.heap.size, 0, none⟩) (by simp) (.int .i64 0)).trans (Grow.refl _).drew
      clear hib hg
      go_wp2
      go_region
      go_wp2
      go_roundw
      case rel => exact .inr (.inl ⟨rfl, HI2.out, HG3.out⟩)
      case measure => simp [intOf]
    · obtain ⟨cc, ff⟩ := hib.2 1 0 rfl
      have HI2 : Hid (IB w.heap.size [(0 : Int), (0 : Int)] (World.drew (World.setCell wr ⟨w.heap.size, 1, none⟩ (.int .i64 0)))) := IB.cast (show IB w.heap.size (([(0 : Int), (0 : Int)] : List Int).set 1 0) _ from IB.up _ _ (IB.set (j := 1) hib 0) (Grow.refl _).drew) rfl
      have HG3 : Hid (Grow w (World.drew (World.setCell wr ⟨w.heap.size, 1, none⟩ (.int .i64 0)))) := (Grow.setCell hg (p := ⟨w.heap.size, 1, none⟩) (by simp) (.int .i64 0)).trans (Grow.refl _).drew
      clear hib hg
      go_wp2
      go_region
      go_wp2
      go_roundw
      case rel => exact .inr (.inr (⟨rfl, HI2.out, HG3.out⟩))
      case measure => simp [intOf]
    · have HIB := Lib.hid (IB.cast hib (show ([(0 : Int), (0 : Int)] : List Int) = gC 2 0 by kernel_rfl)); have HG := Lib.hid hg
      clear hib hg
      go_wp2
      go_ret
      exact ⟨_, rfl, HG.out, HIB.out⟩
set_option maxRecDepth 100000 in
set_option maxHeartbeats 16000000 in
theorem gray2_1 (w : World) : Calls Tryd.prog 6 #[.int .i64 2, .int .i64 1] w (CoQ 2 1 w) := by
  have hmk : ∀ w : World, (Instr.makeSlice 22 (.int .i64 2) (.int .i64 2)).run Tryd.prog w = .ok (.slice (some ⟨w.heap.size, 0, none⟩) 2 2) (w.alloc (.cells (madeCells #[.int .i64 0] 2) 3)) := fun w => run_make_row' (P := Tryd.prog) 22 3 (.int .i64 0) 8 undI infoI rfl .i64 .i64 2 (by omega) (by omega) w
  have HI0 := Lib.hid (IB.cast (IB.made w 2) (show List.replicate 2 (0 : Int) = [(0 : Int), (0 : Int)] from rfl))
  have HG0 := Lib.hid ((Grow.refl w).alloc (.cells (madeCells #[.int .i64 0] 2) 3))
  go_enter Tryd.func6, Tryd.ntmps6
  go_wp2
  clear hmk
  generalize w.alloc (.cells (madeCells #[.int .i64 0] 2) 3) = W0 at *
  go_loopw [11] (fun i wr => (i = .int .i64 0 ∧ IB w.heap.size [(0 : Int), (0 : Int)] wr ∧ Grow w wr) ∨ (i = .int .i64 1 ∧ IB w.heap.size [(1 : Int), (0 : Int)] wr ∧ Grow w wr) ∨ (i = .int .i64 2 ∧ IB w.heap.size [(1 : Int), (0 : Int)] wr ∧ Grow w wr)) (fun i _ => (2 - intOf i).toNat)
  case atStart => exact .inl ⟨rfl, HI0.out, HG0.out⟩
  case round =>
    rcases hrel with ⟨rfl, hib, hg⟩ | ⟨rfl, hib, hg⟩ | ⟨rfl, hib, hg⟩
    · obtain ⟨cc, ff⟩ := hib.2 0 0 rfl
      have HI2 : Hid (IB w.heap.size [(1 : Int), (0 : Int)] (World.drew (World.setCell wr ⟨w.heap.size, 0, none⟩ (.int .i64 1)))) := IB.cast (show IB w.heap.size (([(0 : Int), (0 : Int)] : List Int).set 0 1) _ from IB.up _ _ (IB.set (j := 0) hib 1) (Grow.refl _).drew) rfl
      have HG3 : Hid (Grow w (World.drew (World.setCell wr ⟨w.heap.size, 0, none⟩ (.int .i64 1)))) := (Grow.setCell hg (p := ⟨w.heap.size, 0, none⟩) (by simp) (.int .i64 1)).trans (Grow.refl _).drew
      clear hib hg
      go_wp2
      go_region
      go_wp2
      go_roundw
      case rel => exact .inr (.inl ⟨rfl, HI2.out, HG3.out⟩)
      case measure => simp [intOf]
    · obtain ⟨cc, ff⟩ := hib.2 1 0 rfl
      have HI2 : Hid (IB w.heap.size [(1 : Int), (0 : Int)] (World.drew (World.setCell wr ⟨w.heap.size, 1, none⟩ (.int .i64 0)))) := IB.cast (show IB w.heap.size (([(1 : Int), (0 : Int)] : List Int).set 1 0) _ from IB.up _ _ (IB.set (j := 1) hib 0) (Grow.refl _).drew) rfl
      have HG3 : Hid (Grow w (World.drew (World.setCell wr ⟨w.heap.size, 1, none⟩ (.int .i64 0)))) := (Grow.setCell hg (p := ⟨w.heap.size, 1, none⟩) (by simp) (.int .i64 0)).trans (Grow.refl _).drew
      clear hib hg
      go_wp2
      go_region
      go_wp2
      go_roundw
      case rel => exact .inr (.inr (⟨rfl, HI2.out, HG3.out⟩))
      case measure => simp [intOf]
    · have HIB := Lib.hid (IB.cast hib (show ([(1 : Int), (0 : Int)] : List Int) = gC 2 1 by kernel_rfl)); have HG := Lib.hid hg
      clear hib hg
      go_wp2
      go_ret
      exact ⟨_, rfl, HG.out, HIB.out⟩
set_option maxRecDepth 100000 in
set_option maxHeartbeats 16000000 in
theorem gray2_2 (w : World) : Calls Tryd.prog 6 #[.int .i64 2, .int .i64 2] w (CoQ 2 2 w) := by
  have hmk : ∀ w : World, (Instr.makeSlice 22 (.int .i64 2) (.int .i64 2)).run Tryd.prog w = .ok (.slice (some ⟨w.heap.size, 0, none⟩) 2 2) (w.alloc (.cells (madeCells #[.int .i64 0] 2) 3)) := fun w => run_make_row' (P := Tryd.prog) 22 3 (.int .i64 0) 8 undI infoI rfl .i64 .i64 2 (by omega) (by omega) w
  have HI0 := Lib.hid (IB.cast (IB.made w 2) (show List.replicate 2 (0 : Int) = [(0 : Int), (0 : Int)] from rfl))
  have HG0 := Lib.hid ((Grow.refl w).alloc (.cells (madeCells #[.int .i64 0] 2) 3))
  go_enter Tryd.func6, Tryd.ntmps6
  go_wp2
  clear hmk
  generalize w.alloc (.cells (madeCells #[.int .i64 0] 2) 3) = W0 at *
  go_loopw [11] (fun i wr => (i = .int .i64 0 ∧ IB w.heap.size [(0 : Int), (0 : Int)] wr ∧ Grow w wr) ∨ (i = .int .i64 1 ∧ IB w.heap.size [(1 : Int), (0 : Int)] wr ∧ Grow w wr) ∨ (i = .int .i64 2 ∧ IB w.heap.size [(1 : Int), (1 : Int)] wr ∧ Grow w wr)) (fun i _ => (2 - intOf i).toNat)
  case atStart => exact .inl ⟨rfl, HI0.out, HG0.out⟩
  case round =>
    rcases hrel with ⟨rfl, hib, hg⟩ | ⟨rfl, hib, hg⟩ | ⟨rfl, hib, hg⟩
    · obtain ⟨cc, ff⟩ := hib.2 0 0 rfl
      have HI2 : Hid (IB w.heap.size [(1 : Int), (0 : Int)] (World.drew (World.setCell wr ⟨w.heap.size, 0, none⟩ (.int .i64 1)))) := IB.cast (show IB w.heap.size (([(0 : Int), (0 : Int)] : List Int).set 0 1) _ from IB.up _ _ (IB.set (j := 0) hib 1) (Grow.refl _).drew) rfl
      have HG3 : Hid (Grow w (World.drew (World.setCell wr ⟨w.heap.size, 0, none⟩ (.int .i64 1)))) := (Grow.setCell hg (p := ⟨w.heap.size, 0, none⟩) (by simp) (.int .i64 1)).trans (Grow.refl _).drew
      clear hib hg
      go_wp2
      go_region
      go_wp2
      go_roundw
      case rel => exact .inr (.inl ⟨rfl, HI2.out, HG3.out⟩)
      case measure => simp [intOf]
    · obtain ⟨cc, ff⟩ := hib.2 1 0 rfl
      have HI2 : Hid (IB w.heap.size [(1 : Int), (1 : Int)] (World.drew (World.setCell wr ⟨w.heap.size, 1, none⟩ (.int .i64 1)))) := IB.cast (show IB w.heap.size (([(1 : Int), (0 : Int)] : List Int).set 1 1) _ from IB.up _ _ (IB.set (j := 1) hib 1) (Grow.refl _).drew) rfl
      have HG3 : Hid (Grow w (World.drew (World.setCell wr ⟨w.heap.size, 1, none⟩ (.int .i64 1)))) := (Grow.setCell hg (p := ⟨w.heap.size, 1, none⟩) (by simp) (.int .i64 1)).trans (Grow.refl _).drew
      clear hib hg
      go_wp2
      go_region
      go_wp2
      go_roundw
      case rel => exact .inr (.inr (⟨rfl, HI2.out, HG3.out⟩))
      case measure => simp [intOf]
    · have HIB := Lib.hid (IB.cast hib (show ([(1 : Int), (1 : Int)] : List Int) = gC 2 2 by kernel_rfl)); have HG := Lib.hid hg
      clear hib hg
      go_wp2
      go_ret
      exact ⟨_, rfl, HG.out, HIB.out⟩
set_option maxRecDepth 100000 in
set_option maxHeartbeats 16000000 in
theorem gray2_3 (w : World) : Calls Tryd.prog 6 #[.int .i64 2, .int .i64 3] w (CoQ 2 3 w) := by
  have hmk : ∀ w : World, (Instr.makeSlice 22 (.int .i64 2) (.int .i64 2)).run Tryd.prog w = .ok (.slice (some ⟨w.heap.size, 0, none⟩) 2 2) (w.alloc (.cells (madeCells #[.int .i64 0] 2) 3)) := fun w => run_make_row' (P := Tryd.prog) 22 3 (.int .i64 0) 8 undI infoI rfl .i64 .i64 2 (by omega) (by omega) w
  have HI0 := Lib.hid (IB.cast (IB.made w 2) (show List.replicate 2 (0 : Int) = [(0 : Int), (0 : Int)] from rfl))
  have HG0 := Lib.hid ((Grow.refl w).alloc (.cells (madeCells #[.int .i64 0] 2) 3))
  go_enter Tryd.func6, Tryd.ntmps6
  go_wp2
  clear hmk
  generalize w.alloc (.cells (madeCells #[.int .i64 0] 2) 3) = W0 at *
  go_loopw [11] (fun i wr => (i = .int .i64 0 ∧ IB w.heap.size [(0 : Int), (0 : Int)] wr ∧ Grow w wr) ∨ (i = .int .i64 1 ∧ IB w.heap.size [(0 : Int), (0 : Int)] wr ∧ Grow w wr) ∨ (i = .int .i64 2 ∧ IB w.heap.size [(0 : Int), (1 : Int)] wr ∧ Grow w wr)) (fun i _ => (2 - intOf i).toNat)
  case atStart => exact .inl ⟨rfl, HI0.out, HG0.out⟩
  case round =>
    rcases hrel with ⟨rfl, hib, hg⟩ | ⟨rfl, hib, hg⟩ | ⟨rfl, hib, hg⟩
    · obtain ⟨cc, ff⟩ := hib.2 0 0 rfl
      have HI2 : Hid (IB w.heap.size [(0 : Int), (0 : Int)] (World.drew (World.setCell wr ⟨w.heap.size, 0, none⟩ (.int .i64 0)))) := IB.cast (show IB w.heap.size (([(0 : Int), (0 : Int)] : List Int).set 0 0) _ from IB.up _ _ (IB.set (j := 0) hib 0) (Grow.refl _).drew) rfl
      have HG3 : Hid (Grow w (World.drew (World.setCell wr ⟨w.heap.size, 0, none⟩ (.int .i64 0)))) := (Grow.setCell hg (p := ⟨w.heap.size, 0, none⟩) (by simp) (.int .i64 0)).trans (Grow.refl _).drew
      clear hib hg
      go_wp2
      go_region
      go_wp2
      go_roundw
      case rel => exact .inr (.inl ⟨rfl, HI2.out, HG3.out⟩)
      case measure => simp [intOf]
    · obtain ⟨cc, ff⟩ := hib.2 1 0 rfl
      have HI2 : Hid (IB w.heap.size [(0 : Int), (1 : Int)] (World.drew (World.setCell wr ⟨w.heap.size, 1, none⟩ (.int .i64 1)))) := IB.cast (show IB w.heap.size (([(0 : Int), (0 : Int)] : List Int).set 1 1) _ from IB.up _ _ (IB.set (j := 1) hib 1) (Grow.refl _).drew) rfl
      have HG3 : Hid (Grow w (World.drew (World.setCell wr ⟨w.heap.size, 1, none⟩ (.int .i64 1)))) := (Grow.setCell hg (p := ⟨w.heap.size, 1, none⟩) (by simp) (.int .i64 1)).trans (Grow.refl _).drew
      clear hib hg
      go_wp2
      go_region
      go_wp2
      go_roundw
      case rel => exact .inr (.inr (⟨rfl, HI2.out, HG3.out⟩))
      case measure => simp [intOf]
    · have HIB := Lib.hid (IB.cast hib (show ([(0 : Int), (1 : Int)] : List Int) = gC 2 3 by kernel_rfl)); have HG := Lib.hid hg
      clear hib hg
      go_wp2
      go_ret
      exact ⟨_, rfl, HG.out, HIB.out⟩
end Go.Proofs.YtkcpjndelcfmhaaDoor
