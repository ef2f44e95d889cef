import Derived.Test.YtkcpjndelcfmhaaDoorHbC
import Derived.Deep.OwnRows
namespace Go.Proofs.YtkcpjndelcfmhaaDoor
open Go.ChangeShapes Go.WideShapes Go.ChangeAt Go.RowKit Go.GrowR
set_option linter.unusedVariables false
set_option linter.unusedSimpArgs false
set_option maxRecDepth 100000 in
set_option maxHeartbeats 16000000 in
theorem coord2_0 (w : World) : Calls Tryd.prog 10 #[.agg #[.int .i64 1], .slice none 0 0, .int .i64 0] w (CoQ 2 0 w) := by
  have hmk : ∀ w : World, (Instr.makeSlice 22 (.int .i64 2) (.int .i64 2)).run Tryd.prog w = .ok (.slice (some ⟨w.heap.size, 0, none⟩) 2 2) (w.alloc (.cells (madeCells #[.int .i64 0] 2) 3)) := fun w => run_make_row' (P := Tryd.prog) 22 3 (.int .i64 0) 8 undI infoI rfl .i64 .i64 2 (by omega) (by omega) w
  have heq : ∀ w, (binOp .eql 22 (.slice none 0 0) (.slice none 0 0)).run Tryd.prog w = .ok (.bool true) w := fun w => by simp only [binOp]; simp [run_equal_slice_nil (P := Tryd.prog) w 22 3 none 0 0 undI]
  have HG0 := Lib.hid (((Grow.refl w).alloc (.cells #[.int .i64 1] 31)).alloc (.cells (madeCells #[.int .i64 0] 2) 3))
  have HI0 := Lib.hid (IB.made (w.alloc (.cells #[.int .i64 1] 31)) 2)
  rw [show (w.alloc (.cells #[.int .i64 1] 31)).heap.size = w.heap.size + 1 by simp] at HI0
  have kn : ((w.alloc (.cells #[.int .i64 1] 31)).alloc (.cells (madeCells #[.int .i64 0] 2) 3)).cell? ⟨w.heap.size, 0, none⟩ = some (.int .i64 1) := by go_simp
  go_enter Tryd.func10, Tryd.ntmps10
  go_wp2
  clear hmk heq
  generalize (w.alloc (.cells #[.int .i64 1] 31)).alloc (.cells (madeCells #[.int .i64 0] 2) 3) = W0 at *
  have hlq := cell_ltH kn
  go_loopw [2, 7] (fun pos n wr => (n = .int .i64 0 ∧ pos = .int .i64 0 ∧ wr = W0) ∨ (n = .int .i64 1 ∧ IB (w.heap.size + 1) (gC 2 0) wr ∧ Grow w wr ∧ wr.cell? ⟨w.heap.size, 0, none⟩ = some (.int .i64 1))) (fun _ n _ => (1 - intOf n).toNat)
  case atStart => exact .inl ⟨rfl, rfl, rfl⟩
  case round =>
    rcases hrel with ⟨rfl, rfl, rfl⟩ | ⟨rfl, hib, hg, hkn⟩
    case inr =>
      have HI := Lib.hid hib; have HG := Lib.hid hg
      clear hib hg kn
      go_wp2
      go_ret
      exact ⟨_, rfl, HG.out, HI.out⟩
    case inl =>
      go_wp2
      refine wp_normal ?_
      go_region_law (go_simp; go_at_call 20; refine (rot2_zero _ _ _ _ _ (IB.up _ _ HI0.out (by repeat (first | exact Grow.refl _ | refine Grow.drew ?_ | refine Grow.alloc ?_ _))) (by simp) (by omega)).mono ?_; rintro e w2 h2; obtain ⟨rfl, hg2, hz2⟩ := TuQ.zero h2; have HZ := Lib.hid hz2; have HG2 := Lib.hid (GX.grow (w := w) hg2 (HG0.out.trans (by repeat (first | exact Grow.refl _ | refine Grow.drew ?_ | refine Grow.alloc ?_ _))) (fun k hk => by omega)); have k2 := (hg2.cell _ 0 (by simpa using hlq) (by simp)).trans kn; clear h2 hg2 hz2)
      obtain ⟨c0, f0⟩ := HZ.out.2 0 0 (by simp)
      obtain ⟨c1, f1⟩ := HZ.out.2 1 0 (by simp)
      have hlist : (((List.replicate 2 (0 : Int)).set 0 0).set 1 0) = gC 2 0 := by kernel_rfl
      have HIB : Hid (IB (w.heap.size + 1) (gC 2 0) (World.drew (World.setCell (World.drew (World.setCell w2 ⟨w.heap.size + 1, 0, none⟩ (.int .i64 0))) ⟨w.heap.size + 1, 1, none⟩ (.int .i64 0)))) := IB.cast (show IB (w.heap.size + 1) (((List.replicate 2 (0 : Int)).set 0 0).set 1 0) (World.drew (World.setCell (World.drew (World.setCell w2 ⟨w.heap.size + 1, 0, none⟩ (.int .i64 0))) ⟨w.heap.size + 1, 1, none⟩ (.int .i64 0))) from (IB.up _ _ (IB.set (j := 1) (IB.up _ _ (IB.set (j := 0) HZ.out 0) (Grow.refl _).drew) 0) (Grow.refl _).drew)) hlist
      have HGW : Hid (Grow w (World.drew (World.setCell (World.drew (World.setCell w2 ⟨w.heap.size + 1, 0, none⟩ (.int .i64 0))) ⟨w.heap.size + 1, 1, none⟩ (.int .i64 0)))) := ((Grow.setCell ((Grow.setCell HG2.out (p := ⟨w.heap.size + 1, 0, none⟩) (by simp) (.int .i64 0)).trans (Grow.refl _).drew) (p := ⟨w.heap.size + 1, 1, none⟩) (by simp) (.int .i64 0)).trans (Grow.refl _).drew)
      have k3 : ((World.drew (World.setCell (World.drew (World.setCell w2 ⟨w.heap.size + 1, 0, none⟩ (.int .i64 0))) ⟨w.heap.size + 1, 1, none⟩ (.int .i64 0)))).cell? ⟨w.heap.size, 0, none⟩ = some (.int .i64 1) := by go_simp
      have HK3 := Lib.hid k3
      clear k3 hlist
      go_wp2
      go_region
      go_wp2
      go_region
      go_wp2
      go_roundw
      case rel => exact .inr ⟨rfl, HIB.out, HGW.out, HK3.out⟩
      case measure => simp [intOf]
set_option maxRecDepth 100000 in
set_option maxHeartbeats 16000000 in
theorem coord2_1 (w : World) : Calls Tryd.prog 10 #[.agg #[.int .i64 1], .slice none 0 0, .int .i64 1] w (CoQ 2 1 w) := by
  have hmk : ∀ w : World, (Instr.makeSlice 22 (.int .i64 2) (.int .i64 2)).run Tryd.prog w = .ok (.slice (some ⟨w.heap.size, 0, none⟩) 2 2) (w.alloc (.cells (madeCells #[.int .i64 0] 2) 3)) := fun w => run_make_row' (P := Tryd.prog) 22 3 (.int .i64 0) 8 undI infoI rfl .i64 .i64 2 (by omega) (by omega) w
  have heq : ∀ w, (binOp .eql 22 (.slice none 0 0) (.slice none 0 0)).run Tryd.prog w = .ok (.bool true) w := fun w => by simp only [binOp]; simp [run_equal_slice_nil (P := Tryd.prog) w 22 3 none 0 0 undI]
  have HG0 := Lib.hid (((Grow.refl w).alloc (.cells #[.int .i64 1] 31)).alloc (.cells (madeCells #[.int .i64 0] 2) 3))
  have HI0 := Lib.hid (IB.made (w.alloc (.cells #[.int .i64 1] 31)) 2)
  rw [show (w.alloc (.cells #[.int .i64 1] 31)).heap.size = w.heap.size + 1 by simp] at HI0
  have kn : ((w.alloc (.cells #[.int .i64 1] 31)).alloc (.cells (madeCells #[.int .i64 0] 2) 3)).cell? ⟨w.heap.size, 0, none⟩ = some (.int .i64 1) := by go_simp
  go_enter Tryd.func10, Tryd.ntmps10
  go_wp2
  clear hmk heq
  generalize (w.alloc (.cells #[.int .i64 1] 31)).alloc (.cells (madeCells #[.int .i64 0] 2) 3) = W0 at *
  have hlq := cell_ltH kn
  go_loopw [2, 7] (fun pos n wr => (n = .int .i64 0 ∧ pos = .int .i64 1 ∧ wr = W0) ∨ (n = .int .i64 1 ∧ IB (w.heap.size + 1) (gC 2 1) wr ∧ Grow w wr ∧ wr.cell? ⟨w.heap.size, 0, none⟩ = some (.int .i64 1))) (fun _ n _ => (1 - intOf n).toNat)
  case atStart => exact .inl ⟨rfl, rfl, rfl⟩
  case round =>
    rcases hrel with ⟨rfl, rfl, rfl⟩ | ⟨rfl, hib, hg, hkn⟩
    case inr =>
      have HI := Lib.hid hib; have HG := Lib.hid hg
      clear hib hg kn
      go_wp2
      go_ret
      exact ⟨_, rfl, HG.out, HI.out⟩
    case inl =>
      go_wp2
      refine wp_normal ?_
      go_region_law (go_simp; go_at_call 20; refine (rot2_zero _ _ _ _ _ (IB.up _ _ HI0.out (by repeat (first | exact Grow.refl _ | refine Grow.drew ?_ | refine Grow.alloc ?_ _))) (by simp) (by omega)).mono ?_; rintro e w2 h2; obtain ⟨rfl, hg2, hz2⟩ := TuQ.zero h2; have HZ := Lib.hid hz2; have HG2 := Lib.hid (GX.grow (w := w) hg2 (HG0.out.trans (by repeat (first | exact Grow.refl _ | refine Grow.drew ?_ | refine Grow.alloc ?_ _))) (fun k hk => by omega)); have k2 := (hg2.cell _ 0 (by simpa using hlq) (by simp)).trans kn; clear h2 hg2 hz2)
      obtain ⟨c0, f0⟩ := HZ.out.2 0 0 (by simp)
      obtain ⟨c1, f1⟩ := HZ.out.2 1 0 (by simp)
      have hlist : (((List.replicate 2 (0 : Int)).set 0 1).set 1 0) = gC 2 1 := by kernel_rfl
      have HIB : Hid (IB (w.heap.size + 1) (gC 2 1) (World.drew (World.setCell (World.drew (World.setCell w2 ⟨w.heap.size + 1, 0, none⟩ (.int .i64 1))) ⟨w.heap.size + 1, 1, none⟩ (.int .i64 0)))) := IB.cast (show IB (w.heap.size + 1) (((List.replicate 2 (0 : Int)).set 0 1).set 1 0) (World.drew (World.setCell (World.drew (World.setCell w2 ⟨w.heap.size + 1, 0, none⟩ (.int .i64 1))) ⟨w.heap.size + 1, 1, none⟩ (.int .i64 0))) from (IB.up _ _ (IB.set (j := 1) (IB.up _ _ (IB.set (j := 0) HZ.out 1) (Grow.refl _).drew) 0) (Grow.refl _).drew)) hlist
      have HGW : Hid (Grow w (World.drew (World.setCell (World.drew (World.setCell w2 ⟨w.heap.size + 1, 0, none⟩ (.int .i64 1))) ⟨w.heap.size + 1, 1, none⟩ (.int .i64 0)))) := ((Grow.setCell ((Grow.setCell HG2.out (p := ⟨w.heap.size + 1, 0, none⟩) (by simp) (.int .i64 1)).trans (Grow.refl _).drew) (p := ⟨w.heap.size + 1, 1, none⟩) (by simp) (.int .i64 0)).trans (Grow.refl _).drew)
      have k3 : ((World.drew (World.setCell (World.drew (World.setCell w2 ⟨w.heap.size + 1, 0, none⟩ (.int .i64 1))) ⟨w.heap.size + 1, 1, none⟩ (.int .i64 0)))).cell? ⟨w.heap.size, 0, none⟩ = some (.int .i64 1) := by go_simp
      have HK3 := Lib.hid k3
      clear k3 hlist
      go_wp2
      go_region
      go_wp2
      go_region
      go_wp2
      go_roundw
      case rel => exact .inr ⟨rfl, HIB.out, HGW.out, HK3.out⟩
      case measure => simp [intOf]
set_option maxRecDepth 100000 in
set_option maxHeartbeats 16000000 in
theorem coord2_2 (w : World) : Calls Tryd.prog 10 #[.agg #[.int .i64 1], .slice none 0 0, .int .i64 2] w (CoQ 2 2 w) := by
  have hmk : ∀ w : World, (Instr.makeSlice 22 (.int .i64 2) (.int .i64 2)).run Tryd.prog w = .ok (.slice (some ⟨w.heap.size, 0, none⟩) 2 2) (w.alloc (.cells (madeCells #[.int .i64 0] 2) 3)) := fun w => run_make_row' (P := Tryd.prog) 22 3 (.int .i64 0) 8 undI infoI rfl .i64 .i64 2 (by omega) (by omega) w
  have heq : ∀ w, (binOp .eql 22 (.slice none 0 0) (.slice none 0 0)).run Tryd.prog w = .ok (.bool true) w := fun w => by simp only [binOp]; simp [run_equal_slice_nil (P := Tryd.prog) w 22 3 none 0 0 undI]
  have HG0 := Lib.hid (((Grow.refl w).alloc (.cells #[.int .i64 1] 31)).alloc (.cells (madeCells #[.int .i64 0] 2) 3))
  have HI0 := Lib.hid (IB.made (w.alloc (.cells #[.int .i64 1] 31)) 2)
  rw [show (w.alloc (.cells #[.int .i64 1] 31)).heap.size = w.heap.size + 1 by simp] at HI0
  have kn : ((w.alloc (.cells #[.int .i64 1] 31)).alloc (.cells (madeCells #[.int .i64 0] 2) 3)).cell? ⟨w.heap.size, 0, none⟩ = some (.int .i64 1) := by go_simp
  go_enter Tryd.func10, Tryd.ntmps10
  go_wp2
  clear hmk heq
  generalize (w.alloc (.cells #[.int .i64 1] 31)).alloc (.cells (madeCells #[.int .i64 0] 2) 3) = W0 at *
  have hlq := cell_ltH kn
  go_loopw [2, 7] (fun pos n wr => (n = .int .i64 0 ∧ pos = .int .i64 2 ∧ wr = W0) ∨ (n = .int .i64 1 ∧ IB (w.heap.size + 1) (gC 2 2) wr ∧ Grow w wr ∧ wr.cell? ⟨w.heap.size, 0, none⟩ = some (.int .i64 1))) (fun _ n _ => (1 - intOf n).toNat)
  case atStart => exact .inl ⟨rfl, rfl, rfl⟩
  case round =>
    rcases hrel with ⟨rfl, rfl, rfl⟩ | ⟨rfl, hib, hg, hkn⟩
    case inr =>
      have HI := Lib.hid hib; have HG := Lib.hid hg
      clear hib hg kn
      go_wp2
      go_ret
      exact ⟨_, rfl, HG.out, HI.out⟩
    case inl =>
      go_wp2
      refine wp_normal ?_
      go_region_law (go_simp; go_at_call 20; refine (rot2_zero _ _ _ _ _ (IB.up _ _ HI0.out (by repeat (first | exact Grow.refl _ | refine Grow.drew ?_ | refine Grow.alloc ?_ _))) (by simp) (by omega)).mono ?_; rintro e w2 h2; obtain ⟨rfl, hg2, hz2⟩ := TuQ.zero h2; have HZ := Lib.hid hz2; have HG2 := Lib.hid (GX.grow (w := w) hg2 (HG0.out.trans (by repeat (first | exact Grow.refl _ | refine Grow.drew ?_ | refine Grow.alloc ?_ _))) (fun k hk => by omega)); have k2 := (hg2.cell _ 0 (by simpa using hlq) (by simp)).trans kn; clear h2 hg2 hz2)
      obtain ⟨c0, f0⟩ := HZ.out.2 0 0 (by simp)
      obtain ⟨c1, f1⟩ := HZ.out.2 1 0 (by simp)
      have hlist : (((List.replicate 2 (0 : Int)).set 0 1).set 1 1) = gC 2 2 := by kernel_rfl
      have HIB : Hid (IB (w.heap.size + 1) (gC 2 2) (World.drew (World.setCell (World.drew (World.setCell w2 ⟨w.heap.size + 1, 0, none⟩ (.int .i64 1))) ⟨w.heap.size + 1, 1, none⟩ (.int .i64 1)))) := IB.cast (show IB (w.heap.size + 1) (((List.replicate 2 (0 : Int)).set 0 1).set 1 1) (World.drew (World.setCell (World.drew (World.setCell w2 ⟨w.heap.size + 1, 0, none⟩ (.int .i64 1))) ⟨w.heap.size + 1, 1, none⟩ (.int .i64 1))) from (IB.up _ _ (IB.set (j := 1) (IB.up _ _ (IB.set (j := 0) HZ.out 1) (Grow.refl _).drew) 1) (Grow.refl _).drew)) hlist
      have HGW : Hid (Grow w (World.drew (World.setCell (World.drew (World.setCell w2 ⟨w.heap.size + 1, 0, none⟩ (.int .i64 1))) ⟨w.heap.size + 1, 1, none⟩ (.int .i64 1)))) := ((Grow.setCell ((Grow.setCell HG2.out (p := ⟨w.heap.size + 1, 0, none⟩) (by simp) (.int .i64 1)).trans (Grow.refl _).drew) (p := ⟨w.heap.size + 1, 1, none⟩) (by simp) (.int .i64 1)).trans (Grow.refl _).drew)
      have k3 : ((World.drew (World.setCell (World.drew (World.setCell w2 ⟨w.heap.size + 1, 0, none⟩ (.int .i64 1))) ⟨w.heap.size + 1, 1, none⟩ (.int .i64 1)))).cell? ⟨w.heap.size, 0, none⟩ = some (.int .i64 1) := by go_simp
      have HK3 := Lib.hid k3
      clear k3 hlist
      go_wp2
      go_region
      go_wp2
      go_region
      go_wp2
      go_roundw
      case rel => exact .inr ⟨rfl, HIB.out, HGW.out, HK3.out⟩
      case measure => simp [intOf]
set_option maxRecDepth 100000 in
set_option maxHeartbeats 16000000 in
theorem coord2_3 (w : World) : Calls Tryd.prog 10 #[.agg #[.int .i64 1], .slice none 0 0, .int .i64 3] w (CoQ 2 3 w) := by
  have hmk : ∀ w : World, (Instr.makeSlice 22 (.int .i64 2) (.int .i64 2)).run Tryd.prog w = .ok (.slice (some ⟨w.heap.size, 0, none⟩) 2 2) (w.alloc (.cells (madeCells #[.int .i64 0] 2) 3)) := fun w => run_make_row' (P := Tryd.prog) 22 3 (.int .i64 0) 8 undI infoI rfl .i64 .i64 2 (by omega) (by omega) w
  have heq : ∀ w, (binOp .eql 22 (.slice none 0 0) (.slice none 0 0)).run Tryd.prog w = .ok (.bool true) w := fun w => by simp only [binOp]; simp [run_equal_slice_nil (P := Tryd.prog) w 22 3 none 0 0 undI]
  have HG0 := Lib.hid (((Grow.refl w).alloc (.cells #[.int .i64 1] 31)).alloc (.cells (madeCells #[.int .i64 0] 2) 3))
  have HI0 := Lib.hid (IB.made (w.alloc (.cells #[.int .i64 1] 31)) 2)
  rw [show (w.alloc (.cells #[.int .i64 1] 31)).heap.size = w.heap.size + 1 by simp] at HI0
  have kn : ((w.alloc (.cells #[.int .i64 1] 31)).alloc (.cells (madeCells #[.int .i64 0] 2) 3)).cell? ⟨w.heap.size, 0, none⟩ = some (.int .i64 1) := by go_simp
  go_enter Tryd.func10, Tryd.ntmps10
  go_wp2
  clear hmk heq
  generalize (w.alloc (.cells #[.int .i64 1] 31)).alloc (.cells (madeCells #[.int .i64 0] 2) 3) = W0 at *
  have hlq := cell_ltH kn
  go_loopw [2, 7] (fun pos n wr => (n = .int .i64 0 ∧ pos = .int .i64 3 ∧ wr = W0) ∨ (n = .int .i64 1 ∧ IB (w.heap.size + 1) (gC 2 3) wr ∧ Grow w wr ∧ wr.cell? ⟨w.heap.size, 0, none⟩ = some (.int .i64 1))) (fun _ n _ => (1 - intOf n).toNat)
  case atStart => exact .inl ⟨rfl, rfl, rfl⟩
  case round =>
    rcases hrel with ⟨rfl, rfl, rfl⟩ | ⟨rfl, hib, hg, hkn⟩
    case inr =>
      have HI := Lib.hid hib; have HG := Lib.hid hg
      clear hib hg kn
      go_wp2
      go_ret
      exact ⟨_, rfl, HG.out, HI.out⟩
    case inl =>
      go_wp2
      refine wp_normal ?_
      go_region_law (go_simp; go_at_call 20; refine (rot2_zero _ _ _ _ _ (IB.up _ _ HI0.out (by repeat (first | exact Grow.refl _ | refine Grow.drew ?_ | refine Grow.alloc ?_ _))) (by simp) (by omega)).mono ?_; rintro e w2 h2; obtain ⟨rfl, hg2, hz2⟩ := TuQ.zero h2; have HZ := Lib.hid hz2; have HG2 := Lib.hid (GX.grow (w := w) hg2 (HG0.out.trans (by repeat (first | exact Grow.refl _ | refine Grow.drew ?_ | refine Grow.alloc ?_ _))) (fun k hk => by omega)); have k2 := (hg2.cell _ 0 (by simpa using hlq) (by simp)).trans kn; clear h2 hg2 hz2)
      obtain ⟨c0, f0⟩ := HZ.out.2 0 0 (by simp)
      obtain ⟨c1, f1⟩ := HZ.out.2 1 0 (by simp)
      have hlist : (((List.replicate 2 (0 : Int)).set 0 0).set 1 1) = gC 2 3 := by kernel_rfl
      have HIB : Hid (IB (w.heap.size + 1) (gC 2 3) (World.drew (World.setCell (World.drew (World.setCell w2 ⟨w.heap.size + 1, 0, none⟩ (.int .i64 0))) ⟨w.heap.size + 1, 1, none⟩ (.int .i64 1)))) := IB.cast (show IB (w.heap.size + 1) (((List.replicate 2 (0 : Int)).set 0 0).set 1 1) (World.drew (World.setCell (World.drew (World.setCell w2 ⟨w.heap.size + 1, 0, none⟩ (.int .i64 0))) ⟨w.heap.size + 1, 1, none⟩ (.int .i64 1))) from (IB.up _ _ (IB.set (j := 1) (IB.up _ _ (IB.set (j := 0) HZ.out 0) (Grow.refl _).drew) 1) (Grow.refl _).drew)) hlist
      have HGW : Hid (Grow w (World.drew (World.setCell (World.drew (World.setCell w2 ⟨w.heap.size + 1, 0, none⟩ (.int .i64 0))) ⟨w.heap.size + 1, 1, none⟩ (.int .i64 1)))) := ((Grow.setCell ((Grow.setCell HG2.out (p := ⟨w.heap.size + 1, 0, none⟩) (by simp) (.int .i64 0)).trans (Grow.refl _).drew) (p := ⟨w.heap.size + 1, 1, none⟩) (by simp) (.int .i64 1)).trans (Grow.refl _).drew)
      have k3 : ((World.drew (World.setCell (World.drew (World.setCell w2 ⟨w.heap.size + 1, 0, none⟩ (.int .i64 0))) ⟨w.heap.size + 1, 1, none⟩ (.int .i64 1)))).cell? ⟨w.heap.size, 0, none⟩ = some (.int .i64 1) := by go_simp
      have HK3 := Lib.hid k3
      clear k3 hlist
      go_wp2
      go_region
      go_wp2
      go_region
      go_wp2
      go_roundw
      case rel => exact .inr ⟨rfl, HIB.out, HGW.out, HK3.out⟩
      case measure => simp [intOf]
set_option maxRecDepth 100000 in
set_option maxHeartbeats 16000000 in
theorem coord3_0 (w : World) : Calls Tryd.prog 12 #[.agg #[.int .i64 1], .slice none 0 0, .int .i64 0] w (CoQ 3 0 w) := by
  have hmk : ∀ w : World, (Instr.makeSlice 22 (.int .i64 3) (.int .i64 3)).run Tryd.prog w = .ok (.slice (some ⟨w.heap.size, 0, none⟩) 3 3) (w.alloc (.cells (madeCells #[.int .i64 0] 3) 3)) := fun w => run_make_row' (P := Tryd.prog) 22 3 (.int .i64 0) 8 undI infoI rfl .i64 .i64 3 (by omega) (by omega) w
  have heq : ∀ w, (binOp .eql 22 (.slice none 0 0) (.slice none 0 0)).run Tryd.prog w = .ok (.bool true) w := fun w => by simp only [binOp]; simp [run_equal_slice_nil (P := Tryd.prog) w 22 3 none 0 0 undI]
  have HG0 := Lib.hid (((Grow.refl w).alloc (.cells #[.int .i64 1] 37)).alloc (.cells (madeCells #[.int .i64 0] 3) 3))
  have HI0 := Lib.hid (IB.made (w.alloc (.cells #[.int .i64 1] 37)) 3)
  rw [show (w.alloc (.cells #[.int .i64 1] 37)).heap.size = w.heap.size + 1 by simp] at HI0
  have kn : ((w.alloc (.cells #[.int .i64 1] 37)).alloc (.cells (madeCells #[.int .i64 0] 3) 3)).cell? ⟨w.heap.size, 0, none⟩ = some (.int .i64 1) := by go_simp
  go_enter Tryd.func12, Tryd.ntmps12
  go_wp2
  clear hmk heq
  generalize (w.alloc (.cells #[.int .i64 1] 37)).alloc (.cells (madeCells #[.int .i64 0] 3) 3) = W0 at *
  have hlq := cell_ltH kn
  go_loopw [2, 7] (fun pos n wr => (n = .int .i64 0 ∧ pos = .int .i64 0 ∧ wr = W0) ∨ (n = .int .i64 1 ∧ IB (w.heap.size + 1) (gC 3 0) wr ∧ Grow w wr ∧ wr.cell? ⟨w.heap.size, 0, none⟩ = some (.int .i64 1))) (fun _ n _ => (1 - intOf n).toNat)
  case atStart => exact .inl ⟨rfl, rfl, rfl⟩
  case round =>
    rcases hrel with ⟨rfl, rfl, rfl⟩ | ⟨rfl, hib, hg, hkn⟩
    case inr =>
      have HI := Lib.hid hib; have HG := Lib.hid hg
      clear hib hg kn
      go_wp2
      go_ret
      exact ⟨_, rfl, HG.out, HI.out⟩
    case inl =>
      go_wp2
      refine wp_normal ?_
      go_region_law (go_simp; go_at_call 21; refine (rot3_zero _ _ _ _ true _ (IB.up _ _ HI0.out (by repeat (first | exact Grow.refl _ | refine Grow.drew ?_ | refine Grow.alloc ?_ _))) (by simp) (by omega)).mono ?_; rintro e w2 h2; obtain ⟨rfl, hg2, hz2⟩ := TuQ.zero h2; have HZ := Lib.hid hz2; have HG2 := Lib.hid (GX.grow (w := w) hg2 (HG0.out.trans (by repeat (first | exact Grow.refl _ | refine Grow.drew ?_ | refine Grow.alloc ?_ _))) (fun k hk => by omega)); have k2 := (hg2.cell _ 0 (by simpa using hlq) (by simp)).trans kn; clear h2 hg2 hz2)
      obtain ⟨c0, f0⟩ := HZ.out.2 0 0 (by simp)
      obtain ⟨c1, f1⟩ := HZ.out.2 1 0 (by simp)
      obtain ⟨c2, f2⟩ := HZ.out.2 2 0 (by simp)
      have hlist : ((((List.replicate 3 (0 : Int)).set 0 0).set 1 0).set 2 0) = gC 3 0 := by kernel_rfl
      have HIB : Hid (IB (w.heap.size + 1) (gC 3 0) (World.drew (World.setCell (World.drew (World.setCell (World.drew (World.setCell w2 ⟨w.heap.size + 1, 0, none⟩ (.int .i64 0))) ⟨w.heap.size + 1, 1, none⟩ (.int .i64 0))) ⟨w.heap.size + 1, 2, none⟩ (.int .i64 0)))) := IB.cast (show IB (w.heap.size + 1) ((((List.replicate 3 (0 : Int)).set 0 0).set 1 0).set 2 0) (World.drew (World.setCell (World.drew (World.setCell (World.drew (World.setCell w2 ⟨w.heap.size + 1, 0, none⟩ (.int .i64 0))) ⟨w.heap.size + 1, 1, none⟩ (.int .i64 0))) ⟨w.heap.size + 1, 2, none⟩ (.int .i64 0))) from (IB.up _ _ (IB.set (j := 2) (IB.up _ _ (IB.set (j := 1) (IB.up _ _ (IB.set (j := 0) HZ.out 0) (Grow.refl _).drew) 0) (Grow.refl _).drew) 0) (Grow.refl _).drew)) hlist
      have HGW : Hid (Grow w (World.drew (World.setCell (World.drew (World.setCell (World.drew (World.setCell w2 ⟨w.heap.size + 1, 0, none⟩ (.int .i64 0))) ⟨w.heap.size + 1, 1, none⟩ (.int .i64 0))) ⟨w.heap.size + 1, 2, none⟩ (.int .i64 0)))) := ((Grow.setCell ((Grow.setCell ((Grow.setCell HG2.out (p := ⟨w.heap.size + 1, 0, none⟩) (by simp) (.int .i64 0)).trans (Grow.refl _).drew) (p := ⟨w.heap.size + 1, 1, none⟩) (by simp) (.int .i64 0)).trans (Grow.refl _).drew) (p := ⟨w.heap.size + 1, 2, none⟩) (by simp) (.int .i64 0)).trans (Grow.refl _).drew)
      have k3 : ((World.drew (World.setCell (World.drew (World.setCell (World.drew (World.setCell w2 ⟨w.heap.size + 1, 0, none⟩ (.int .i64 0))) ⟨w.heap.size + 1, 1, none⟩ (.int .i64 0))) ⟨w.heap.size + 1, 2, none⟩ (.int .i64 0)))).cell? ⟨w.heap.size, 0, none⟩ = some (.int .i64 1) := by go_simp
      have HK3 := Lib.hid k3
      clear k3 hlist
      go_wp2
      go_region
      go_wp2
      go_region
      go_wp2
      go_region
      go_wp2
      go_roundw
      case rel => exact .inr ⟨rfl, HIB.out, HGW.out, HK3.out⟩
      case measure => simp [intOf]
set_option maxRecDepth 100000 in
set_option maxHeartbeats 16000000 in
theorem coord3_1 (w : World) : Calls Tryd.prog 12 #[.agg #[.int .i64 1], .slice none 0 0, .int .i64 1] w (CoQ 3 1 w) := by
  have hmk : ∀ w : World, (Instr.makeSlice 22 (.int .i64 3) (.int .i64 3)).run Tryd.prog w = .ok (.slice (some ⟨w.heap.size, 0, none⟩) 3 3) (w.alloc (.cells (madeCells #[.int .i64 0] 3) 3)) := fun w => run_make_row' (P := Tryd.prog) 22 3 (.int .i64 0) 8 undI infoI rfl .i64 .i64 3 (by omega) (by omega) w
  have heq : ∀ w, (binOp .eql 22 (.slice none 0 0) (.slice none 0 0)).run Tryd.prog w = .ok (.bool true) w := fun w => by simp only [binOp]; simp [run_equal_slice_nil (P := Tryd.prog) w 22 3 none 0 0 undI]
  have HG0 := Lib.hid (((Grow.refl w).alloc (.cells #[.int .i64 1] 37)).alloc (.cells (madeCells #[.int .i64 0] 3) 3))
  have HI0 := Lib.hid (IB.made (w.alloc (.cells #[.int .i64 1] 37)) 3)
  rw [show (w.alloc (.cells #[.int .i64 1] 37)).heap.size = w.heap.size + 1 by simp] at HI0
  have kn : ((w.alloc (.cells #[.int .i64 1] 37)).alloc (.cells (madeCells #[.int .i64 0] 3) 3)).cell? ⟨w.heap.size, 0, none⟩ = some (.int .i64 1) := by go_simp
  go_enter Tryd.func12, Tryd.ntmps12
  go_wp2
  clear hmk heq
  generalize (w.alloc (.cells #[.int .i64 1] 37)).alloc (.cells (madeCells #[.int .i64 0] 3) 3) = W0 at *
  have hlq := cell_ltH kn
  go_loopw [2, 7] (fun pos n wr => (n = .int .i64 0 ∧ pos = .int .i64 1 ∧ wr = W0) ∨ (n = .int .i64 1 ∧ IB (w.heap.size + 1) (gC 3 1) wr ∧ Grow w wr ∧ wr.cell? ⟨w.heap.size, 0, none⟩ = some (.int .i64 1))) (fun _ n _ => (1 - intOf n).toNat)
  case atStart => exact .inl ⟨rfl, rfl, rfl⟩
  case round =>
    rcases hrel with ⟨rfl, rfl, rfl⟩ | ⟨rfl, hib, hg, hkn⟩
    case inr =>
      have HI := Lib.hid hib; have HG := Lib.hid hg
      clear hib hg kn
      go_wp2
      go_ret
      exact ⟨_, rfl, HG.out, HI.out⟩
    case inl =>
      go_wp2
      refine wp_normal ?_
      go_region_law (go_simp; go_at_call 21; refine (rot3_zero _ _ _ _ true _ (IB.up _ _ HI0.out (by repeat (first | exact Grow.refl _ | refine Grow.drew ?_ | refine Grow.alloc ?_ _))) (by simp) (by omega)).mono ?_; rintro e w2 h2; obtain ⟨rfl, hg2, hz2⟩ := TuQ.zero h2; have HZ := Lib.hid hz2; have HG2 := Lib.hid (GX.grow (w := w) hg2 (HG0.out.trans (by repeat (first | exact Grow.refl _ | refine Grow.drew ?_ | refine Grow.alloc ?_ _))) (fun k hk => by omega)); have k2 := (hg2.cell _ 0 (by simpa using hlq) (by simp)).trans kn; clear h2 hg2 hz2)
      obtain ⟨c0, f0⟩ := HZ.out.2 0 0 (by simp)
      obtain ⟨c1, f1⟩ := HZ.out.2 1 0 (by simp)
      obtain ⟨c2, f2⟩ := HZ.out.2 2 0 (by simp)
      have hlist : ((((List.replicate 3 (0 : Int)).set 0 1).set 1 0).set 2 0) = gC 3 1 := by kernel_rfl
      have HIB : Hid (IB (w.heap.size + 1) (gC 3 1) (World.drew (World.setCell (World.drew (World.setCell (World.drew (World.setCell w2 ⟨w.heap.size + 1, 0, none⟩ (.int .i64 1))) ⟨w.heap.size + 1, 1, none⟩ (.int .i64 0))) ⟨w.heap.size + 1, 2, none⟩ (.int .i64 0)))) := IB.cast (show IB (w.heap.size + 1) ((((List.replicate 3 (0 : Int)).set 0 1).set 1 0).set 2 0) (World.drew (World.setCell (World.drew (World.setCell (World.drew (World.setCell w2 ⟨w.heap.size + 1, 0, none⟩ (.int .i64 1))) ⟨w.heap.size + 1, 1, none⟩ (.int .i64 0))) ⟨w.heap.size + 1, 2, none⟩ (.int .i64 0))) from (IB.up _ _ (IB.set (j := 2) (IB.up _ _ (IB.set (j := 1) (IB.up _ _ (IB.set (j := 0) HZ.out 1) (Grow.refl _).drew) 0) (Grow.refl _).drew) 0) (Grow.refl _).drew)) hlist
      have HGW : Hid (Grow w (World.drew (World.setCell (World.drew (World.setCell (World.drew (World.setCell w2 ⟨w.heap.size + 1, 0, none⟩ (.int .i64 1))) ⟨w.heap.size + 1, 1, none⟩ (.int .i64 0))) ⟨w.heap.size + 1, 2, none⟩ (.int .i64 0)))) := ((Grow.setCell ((Grow.setCell ((Grow.setCell HG2.out (p := ⟨w.heap.size + 1, 0, none⟩) (by simp) (.int .i64 1)).trans (Grow.refl _).drew) (p := ⟨w.heap.size + 1, 1, none⟩) (by simp) (.int .i64 0)).trans (Grow.refl _).drew) (p := ⟨w.heap.size + 1, 2, none⟩) (by simp) (.int .i64 0)).trans (Grow.refl _).drew)
      have k3 : ((World.drew (World.setCell (World.drew (World.setCell (World.drew (World.setCell w2 ⟨w.heap.size + 1, 0, none⟩ (.int .i64 1))) ⟨w.heap.size + 1, 1, none⟩ (.int .i64 0))) ⟨w.heap.size + 1, 2, none⟩ (.int .i64 0)))).cell? ⟨w.heap.size, 0, none⟩ = some (.int .i64 1) := by go_simp
      have HK3 := Lib.hid k3
      clear k3 hlist
      go_wp2
      go_region
      go_wp2
      go_region
      go_wp2
      go_region
      go_wp2
      go_roundw
      case rel => exact .inr ⟨rfl, HIB.out, HGW.out, HK3.out⟩
      case measure => simp [intOf]
set_option maxRecDepth 100000 in
set_option maxHeartbeats 16000000 in
theorem coord3_2 (w : World) : Calls Tryd.prog 12 #[.agg #[.int .i64 1], .slice none 0 0, .int .i64 2] w (CoQ 3 2 w) := by
  have hmk : ∀ w : World, (Instr.makeSlice 22 (.int .i64 3) (.int .i64 3)).run Tryd.prog w = .ok (.slice (some ⟨w.heap.size, 0, none⟩) 3 3) (w.alloc (.cells (madeCells #[.int .i64 0] 3) 3)) := fun w => run_make_row' (P := Tryd.prog) 22 3 (.int .i64 0) 8 undI infoI rfl .i64 .i64 3 (by omega) (by omega) w
  have heq : ∀ w, (binOp .eql 22 (.slice none 0 0) (.slice none 0 0)).run Tryd.prog w = .ok (.bool true) w := fun w => by simp only [binOp]; simp [run_equal_slice_nil (P := Tryd.prog) w 22 3 none 0 0 undI]
  have HG0 := Lib.hid (((Grow.refl w).alloc (.cells #[.int .i64 1] 37)).alloc (.cells (madeCells #[.int .i64 0] 3) 3))
  have HI0 := Lib.hid (IB.made (w.alloc (.cells #[.int .i64 1] 37)) 3)
  rw [show (w.alloc (.cells #[.int .i64 1] 37)).heap.size = w.heap.size + 1 by simp] at HI0
  have kn : ((w.alloc (.cells #[.int .i64 1] 37)).alloc (.cells (madeCells #[.int .i64 0] 3) 3)).cell? ⟨w.heap.size, 0, none⟩ = some (.int .i64 1) := by go_simp
  go_enter Tryd.func12, Tryd.ntmps12
  go_wp2
  clear hmk heq
  generalize (w.alloc (.cells #[.int .i64 1] 37)).alloc (.cells (madeCells #[.int .i64 0] 3) 3) = W0 at *
  have hlq := cell_ltH kn
  go_loopw [2, 7] (fun pos n wr => (n = .int .i64 0 ∧ pos = .int .i64 2 ∧ wr = W0) ∨ (n = .int .i64 1 ∧ IB (w.heap.size + 1) (gC 3 2) wr ∧ Grow w wr ∧ wr.cell? ⟨w.heap.size, 0, none⟩ = some (.int .i64 1))) (fun _ n _ => (1 - intOf n).toNat)
  case atStart => exact .inl ⟨rfl, rfl, rfl⟩
  case round =>
    rcases hrel with ⟨rfl, rfl, rfl⟩ | ⟨rfl, hib, hg, hkn⟩
    case inr =>
      have HI := Lib.hid hib; have HG := Lib.hid hg
      clear hib hg kn
      go_wp2
      go_ret
      exact ⟨_, rfl, HG.out, HI.out⟩
    case inl =>
      go_wp2
      refine wp_normal ?_
      go_region_law (go_simp; go_at_call 21; refine (rot3_zero _ _ _ _ true _ (IB.up _ _ HI0.out (by repeat (first | exact Grow.refl _ | refine Grow.drew ?_ | refine Grow.alloc ?_ _))) (by simp) (by omega)).mono ?_; rintro e w2 h2; obtain ⟨rfl, hg2, hz2⟩ := TuQ.zero h2; have HZ := Lib.hid hz2; have HG2 := Lib.hid (GX.grow (w := w) hg2 (HG0.out.trans (by repeat (first | exact Grow.refl _ | refine Grow.drew ?_ | refine Grow.alloc ?_ _))) (fun k hk => by omega)); have k2 := (hg2.cell _ 0 (by simpa using hlq) (by simp)).trans kn; clear h2 hg2 hz2)
      obtain ⟨c0, f0⟩ := HZ.out.2 0 0 (by simp)
      obtain ⟨c1, f1⟩ := HZ.out.2 1 0 (by simp)
      obtain ⟨c2, f2⟩ := HZ.out.2 2 0 (by simp)
      have hlist : ((((List.replicate 3 (0 : Int)).set 0 1).set 1 1).set 2 0) = gC 3 2 := by kernel_rfl
      have HIB : Hid (IB (w.heap.size + 1) (gC 3 2) (World.drew (World.setCell (World.drew (World.setCell (World.drew (World.setCell w2 ⟨w.heap.size + 1, 0, none⟩ (.int .i64 1))) ⟨w.heap.size + 1, 1, none⟩ (.int .i64 1))) ⟨w.heap.size + 1, 2, none⟩ (.int .i64 0)))) := IB.cast (show IB (w.heap.size + 1) ((((List.replicate 3 (0 : Int)).set 0 1).set 1 1).set 2 0) (World.drew (World.setCell (World.drew (World.setCell (World.drew (World.setCell w2 ⟨w.heap.size + 1, 0, none⟩ (.int .i64 1))) ⟨w.heap.size + 1, 1, none⟩ (.int .i64 1))) ⟨w.heap.size + 1, 2, none⟩ (.int .i64 0))) from (IB.up _ _ (IB.set (j := 2) (IB.up _ _ (IB.set (j := 1) (IB.up _ _ (IB.set (j := 0) HZ.out 1) (Grow.refl _).drew) 1) (Grow.refl _).drew) 0) (Grow.refl _).drew)) hlist
      have HGW : Hid (Grow w (World.drew (World.setCell (World.drew (World.setCell (World.drew (World.setCell w2 ⟨w.heap.size + 1, 0, none⟩ (.int .i64 1))) ⟨w.heap.size + 1, 1, none⟩ (.int .i64 1))) ⟨w.heap.size + 1, 2, none⟩ (.int .i64 0)))) := ((Grow.setCell ((Grow.setCell ((Grow.setCell HG2.out (p := ⟨w.heap.size + 1, 0, none⟩) (by simp) (.int .i64 1)).trans (Grow.refl _).drew) (p := ⟨w.heap.size + 1, 1, none⟩) (by simp) (.int .i64 1)).trans (Grow.refl _).drew) (p := ⟨w.heap.size + 1, 2, none⟩) (by simp) (.int .i64 0)).trans (Grow.refl _).drew)
      have k3 : ((World.drew (World.setCell (World.drew (World.setCell (World.drew (World.setCell w2 ⟨w.heap.size + 1, 0, none⟩ (.int .i64 1))) ⟨w.heap.size + 1, 1, none⟩ (.int .i64 1))) ⟨w.heap.size + 1, 2, none⟩ (.int .i64 0)))).cell? ⟨w.heap.size, 0, none⟩ = some (.int .i64 1) := by go_simp
      have HK3 := Lib.hid k3
      clear k3 hlist
      go_wp2
      go_region
      go_wp2
      go_region
      go_wp2
      go_region
      go_wp2
      go_roundw
      case rel => exact .inr ⟨rfl, HIB.out, HGW.out, HK3.out⟩
      case measure => simp [intOf]
set_option maxRecDepth 100000 in
set_option maxHeartbeats 16000000 in
theorem coord3_3 (w : World) : Calls Tryd.prog 12 #[.agg #[.int .i64 1], .slice none 0 0, .int .i64 3] w (CoQ 3 3 w) := by
  have hmk : ∀ w : World, (Instr.makeSlice 22 (.int .i64 3) (.int .i64 3)).run Tryd.prog w = .ok (.slice (some ⟨w.heap.size, 0, none⟩) 3 3) (w.alloc (.cells (madeCells #[.int .i64 0] 3) 3)) := fun w => run_make_row' (P := Tryd.prog) 22 3 (.int .i64 0) 8 undI infoI rfl .i64 .i64 3 (by omega) (by omega) w
  have heq : ∀ w, (binOp .eql 22 (.slice none 0 0) (.slice none 0 0)).run Tryd.prog w = .ok (.bool true) w := fun w => by simp only [binOp]; simp [run_equal_slice_nil (P := Tryd.prog) w 22 3 none 0 0 undI]
  have HG0 := Lib.hid (((Grow.refl w).alloc (.cells #[.int .i64 1] 37)).alloc (.cells (madeCells #[.int .i64 0] 3) 3))
  have HI0 := Lib.hid (IB.made (w.alloc (.cells #[.int .i64 1] 37)) 3)
  rw [show (w.alloc (.cells #[.int .i64 1] 37)).heap.size = w.heap.size + 1 by simp] at HI0
  have kn : ((w.alloc (.cells #[.int .i64 1] 37)).alloc (.cells (madeCells #[.int .i64 0] 3) 3)).cell? ⟨w.heap.size, 0, none⟩ = some (.int .i64 1) := by go_simp
  go_enter Tryd.func12, Tryd.ntmps12
  go_wp2
  clear hmk heq
  generalize (w.alloc (.cells #[.int .i64 1] 37)).alloc (.cells (madeCells #[.int .i64 0] 3) 3) = W0 at *
  have hlq := cell_ltH kn
  go_loopw [2, 7] (fun pos n wr => (n = .int .i64 0 ∧ pos = .int .i64 3 ∧ wr = W0) ∨ (n = .int .i64 1 ∧ IB (w.heap.size + 1) (gC 3 3) wr ∧ Grow w wr ∧ wr.cell? ⟨w.heap.size, 0, none⟩ = some (.int .i64 1))) (fun _ n _ => (1 - intOf n).toNat)
  case atStart => exact .inl ⟨rfl, rfl, rfl⟩
  case round =>
    rcases hrel with ⟨rfl, rfl, rfl⟩ | ⟨rfl, hib, hg, hkn⟩
    case inr =>
      have HI := Lib.hid hib; have HG := Lib.hid hg
      clear hib hg kn
      go_wp2
      go_ret
      exact ⟨_, rfl, HG.out, HI.out⟩
    case inl =>
      go_wp2
      refine wp_normal ?_
      go_region_law (go_simp; go_at_call 21; refine (rot3_zero _ _ _ _ true _ (IB.up _ _ HI0.out (by repeat (first | exact Grow.refl _ | refine Grow.drew ?_ | refine Grow.alloc ?_ _))) (by simp) (by omega)).mono ?_; rintro e w2 h2; obtain ⟨rfl, hg2, hz2⟩ := TuQ.zero h2; have HZ := Lib.hid hz2; have HG2 := Lib.hid (GX.grow (w := w) hg2 (HG0.out.trans (by repeat (first | exact Grow.refl _ | refine Grow.drew ?_ | refine Grow.alloc ?_ _))) (fun k hk => by omega)); have k2 := (hg2.cell _ 0 (by simpa using hlq) (by simp)).trans kn; clear h2 hg2 hz2)
      obtain ⟨c0, f0⟩ := HZ.out.2 0 0 (by simp)
      obtain ⟨c1, f1⟩ := HZ.out.2 1 0 (by simp)
      obtain ⟨c2, f2⟩ := HZ.out.2 2 0 (by simp)
      have hlist : ((((List.replicate 3 (0 : Int)).set 0 0).set 1 1).set 2 0) = gC 3 3 := by kernel_rfl
      have HIB : Hid (IB (w.heap.size + 1) (gC 3 3) (World.drew (World.setCell (World.drew (World.setCell (World.drew (World.setCell w2 ⟨w.heap.size + 1, 0, none⟩ (.int .i64 0))) ⟨w.heap.size + 1, 1, none⟩ (.int .i64 1))) ⟨w.heap.size + 1, 2, none⟩ (.int .i64 0)))) := IB.cast (show IB (w.heap.size + 1) ((((List.replicate 3 (0 : Int)).set 0 0).set 1 1).set 2 0) (World.drew (World.setCell (World.drew (World.setCell (World.drew (World.setCell w2 ⟨w.heap.size + 1, 0, none⟩ (.int .i64 0))) ⟨w.heap.size + 1, 1, none⟩ (.int .i64 1))) ⟨w.heap.size + 1, 2, none⟩ (.int .i64 0))) from (IB.up _ _ (IB.set (j := 2) (IB.up _ _ (IB.set (j := 1) (IB.up _ _ (IB.set (j := 0) HZ.out 0) (Grow.refl _).drew) 1) (Grow.refl _).drew) 0) (Grow.refl _).drew)) hlist
      have HGW : Hid (Grow w (World.drew (World.setCell (World.drew (World.setCell (World.drew (World.setCell w2 ⟨w.heap.size + 1, 0, none⟩ (.int .i64 0))) ⟨w.heap.size + 1, 1, none⟩ (.int .i64 1))) ⟨w.heap.size + 1, 2, none⟩ (.int .i64 0)))) := ((Grow.setCell ((Grow.setCell ((Grow.setCell HG2.out (p := ⟨w.heap.size + 1, 0, none⟩) (by simp) (.int .i64 0)).trans (Grow.refl _).drew) (p := ⟨w.heap.size + 1, 1, none⟩) (by simp) (.int .i64 1)).trans (Grow.refl _).drew) (p := ⟨w.heap.size + 1, 2, none⟩) (by simp) (.int .i64 0)).trans (Grow.refl _).drew)
      have k3 : ((World.drew (World.setCell (World.drew (World.setCell (World.drew (World.setCell w2 ⟨w.heap.size + 1, 0, none⟩ (.int .i64 0))) ⟨w.heap.size + 1, 1, none⟩ (.int .i64 1))) ⟨w.heap.size + 1, 2, none⟩ (.int .i64 0)))).cell? ⟨w.heap.size, 0, none⟩ = some (.int .i64 1) := by go_simp
      have HK3 := Lib.hid k3
      clear k3 hlist
      go_wp2
      go_region
      go_wp2
      go_region
      go_wp2
      go_region
      go_wp2
      go_roundw
      case rel => exact .inr ⟨rfl, HIB.out, HGW.out, HK3.out⟩
      case measure => simp [intOf]
set_option maxRecDepth 100000 in
set_option maxHeartbeats 16000000 in
theorem coord3_4 (w : World) : Calls Tryd.prog 12 #[.agg #[.int .i64 1], .slice none 0 0, .int .i64 4] w (CoQ 3 4 w) := by
  have hmk : ∀ w : World, (Instr.makeSlice 22 (.int .i64 3) (.int .i64 3)).run Tryd.prog w = .ok (.slice (some ⟨w.heap.size, 0, none⟩) 3 3) (w.alloc (.cells (madeCells #[.int .i64 0] 3) 3)) := fun w => run_make_row' (P := Tryd.prog) 22 3 (.int .i64 0) 8 undI infoI rfl .i64 .i64 3 (by omega) (by omega) w
  have heq : ∀ w, (binOp .eql 22 (.slice none 0 0) (.slice none 0 0)).run Tryd.prog w = .ok (.bool true) w := fun w => by simp only [binOp]; simp [run_equal_slice_nil (P := Tryd.prog) w 22 3 none 0 0 undI]
  have HG0 := Lib.hid (((Grow.refl w).alloc (.cells #[.int .i64 1] 37)).alloc (.cells (madeCells #[.int .i64 0] 3) 3))
  have HI0 := Lib.hid (IB.made (w.alloc (.cells #[.int .i64 1] 37)) 3)
  rw [show (w.alloc (.cells #[.int .i64 1] 37)).heap.size = w.heap.size + 1 by simp] at HI0
  have kn : ((w.alloc (.cells #[.int .i64 1] 37)).alloc (.cells (madeCells #[.int .i64 0] 3) 3)).cell? ⟨w.heap.size, 0, none⟩ = some (.int .i64 1) := by go_simp
  go_enter Tryd.func12, Tryd.ntmps12
  go_wp2
  clear hmk heq
  generalize (w.alloc (.cells #[.int .i64 1] 37)).alloc (.cells (madeCells #[.int .i64 0] 3) 3) = W0 at *
  have hlq := cell_ltH kn
  go_loopw [2, 7] (fun pos n wr => (n = .int .i64 0 ∧ pos = .int .i64 4 ∧ wr = W0) ∨ (n = .int .i64 1 ∧ IB (w.heap.size + 1) (gC 3 4) wr ∧ Grow w wr ∧ wr.cell? ⟨w.heap.size, 0, none⟩ = some (.int .i64 1))) (fun _ n _ => (1 - intOf n).toNat)
  case atStart => exact .inl ⟨rfl, rfl, rfl⟩
  case round =>
    rcases hrel with ⟨rfl, rfl, rfl⟩ | ⟨rfl, hib, hg, hkn⟩
    case inr =>
      have HI := Lib.hid hib; have HG := Lib.hid hg
      clear hib hg kn
      go_wp2
      go_ret
      exact ⟨_, rfl, HG.out, HI.out⟩
    case inl =>
      go_wp2
      refine wp_normal ?_
      go_region_law (go_simp; go_at_call 21; refine (rot3_zero _ _ _ _ true _ (IB.up _ _ HI0.out (by repeat (first | exact Grow.refl _ | refine Grow.drew ?_ | refine Grow.alloc ?_ _))) (by simp) (by omega)).mono ?_; rintro e w2 h2; obtain ⟨rfl, hg2, hz2⟩ := TuQ.zero h2; have HZ := Lib.hid hz2; have HG2 := Lib.hid (GX.grow (w := w) hg2 (HG0.out.trans (by repeat (first | exact Grow.refl _ | refine Grow.drew ?_ | refine Grow.alloc ?_ _))) (fun k hk => by omega)); have k2 := (hg2.cell _ 0 (by simpa using hlq) (by simp)).trans kn; clear h2 hg2 hz2)
      obtain ⟨c0, f0⟩ := HZ.out.2 0 0 (by simp)
      obtain ⟨c1, f1⟩ := HZ.out.2 1 0 (by simp)
      obtain ⟨c2, f2⟩ := HZ.out.2 2 0 (by simp)
      have hlist : ((((List.replicate 3 (0 : Int)).set 0 0).set 1 1).set 2 1) = gC 3 4 := by kernel_rfl
      have HIB : Hid (IB (w.heap.size + 1) (gC 3 4) (World.drew (World.setCell (World.drew (World.setCell (World.drew (World.setCell w2 ⟨w.heap.size + 1, 0, none⟩ (.int .i64 0))) ⟨w.heap.size + 1, 1, none⟩ (.int .i64 1))) ⟨w.heap.size + 1, 2, none⟩ (.int .i64 1)))) := IB.cast (show IB (w.heap.size + 1) ((((List.replicate 3 (0 : Int)).set 0 0).set 1 1).set 2 1) (World.drew (World.setCell (World.drew (World.setCell (World.drew (World.setCell w2 ⟨w.heap.size + 1, 0, none⟩ (.int .i64 0))) ⟨w.heap.size + 1, 1, none⟩ (.int .i64 1))) ⟨w.heap.size + 1, 2, none⟩ (.int .i64 1))) from (IB.up _ _ (IB.set (j := 2) (IB.up _ _ (IB.set (j := 1) (IB.up _ _ (IB.set (j := 0) HZ.out 0) (Grow.refl _).drew) 1) (Grow.refl _).drew) 1) (Grow.refl _).drew)) hlist
      have HGW : Hid (Grow w (World.drew (World.setCell (World.drew (World.setCell (World.drew (World.setCell w2 ⟨w.heap.size + 1, 0, none⟩ (.int .i64 0))) ⟨w.heap.size + 1, 1, none⟩ (.int .i64 1))) ⟨w.heap.size + 1, 2, none⟩ (.int .i64 1)))) := ((Grow.setCell ((Grow.setCell ((Grow.setCell HG2.out (p := ⟨w.heap.size + 1, 0, none⟩) (by simp) (.int .i64 0)).trans (Grow.refl _).drew) (p := ⟨w.heap.size + 1, 1, none⟩) (by simp) (.int .i64 1)).trans (Grow.refl _).drew) (p := ⟨w.heap.size + 1, 2, none⟩) (by simp) (.int .i64 1)).trans (Grow.refl _).drew)
      have k3 : ((World.drew (World.setCell (World.drew (World.setCell (World.drew (World.setCell w2 ⟨w.heap.size + 1, 0, none⟩ (.int .i64 0))) ⟨w.heap.size + 1, 1, none⟩ (.int .i64 1))) ⟨w.heap.size + 1, 2, none⟩ (.int .i64 1)))).cell? ⟨w.heap.size, 0, none⟩ = some (.int .i64 1) := by go_simp
      have HK3 := Lib.hid k3
      clear k3 hlist
      go_wp2
      go_region
      go_wp2
      go_region
      go_wp2
      go_region
      go_wp2
      go_roundw
      case rel => exact .inr ⟨rfl, HIB.out, HGW.out, HK3.out⟩
      case measure => simp [intOf]
set_option maxRecDepth 100000 in
set_option maxHeartbeats 16000000 in
theorem coord3_5 (w : World) : Calls Tryd.prog 12 #[.agg #[.int .i64 1], .slice none 0 0, .int .i64 5] w (CoQ 3 5 w) := by
  have hmk : ∀ w : World, (Instr.makeSlice 22 (.int .i64 3) (.int .i64 3)).run Tryd.prog w = .ok (.slice (some ⟨w.heap.size, 0, none⟩) 3 3) (w.alloc (.cells (madeCells #[.int .i64 0] 3) 3)) := fun w => run_make_row' (P := Tryd.prog) 22 3 (.int .i64 0) 8 undI infoI rfl .i64 .i64 3 (by omega) (by omega) w
  have heq : ∀ w, (binOp .eql 22 (.slice none 0 0) (.slice none 0 0)).run Tryd.prog w = .ok (.bool true) w := fun w => by simp only [binOp]; simp [run_equal_slice_nil (P := Tryd.prog) w 22 3 none 0 0 undI]
  have HG0 := Lib.hid (((Grow.refl w).alloc (.cells #[.int .i64 1] 37)).alloc (.cells (madeCells #[.int .i64 0] 3) 3))
  have HI0 := Lib.hid (IB.made (w.alloc (.cells #[.int .i64 1] 37)) 3)
  rw [show (w.alloc (.cells #[.int .i64 1] 37)).heap.size = w.heap.size + 1 by simp] at HI0
  have kn : ((w.alloc (.cells #[.int .i64 1] 37)).alloc (.cells (madeCells #[.int .i64 0] 3) 3)).cell? ⟨w.heap.size, 0, none⟩ = some (.int .i64 1) := by go_simp
  go_enter Tryd.func12, Tryd.ntmps12
  go_wp2
  clear hmk heq
  generalize (w.alloc (.cells #[.int .i64 1] 37)).alloc (.cells (madeCells #[.int .i64 0] 3) 3) = W0 at *
  have hlq := cell_ltH kn
  go_loopw [2, 7] (fun pos n wr => (n = .int .i64 0 ∧ pos = .int .i64 5 ∧ wr = W0) ∨ (n = .int .i64 1 ∧ IB (w.heap.size + 1) (gC 3 5) wr ∧ Grow w wr ∧ wr.cell? ⟨w.heap.size, 0, none⟩ = some (.int .i64 1))) (fun _ n _ => (1 - intOf n).toNat)
  case atStart => exact .inl ⟨rfl, rfl, rfl⟩
  case round =>
    rcases hrel with ⟨rfl, rfl, rfl⟩ | ⟨rfl, hib, hg, hkn⟩
    case inr =>
      have HI := Lib.hid hib; have HG := Lib.hid hg
      clear hib hg kn
      go_wp2
      go_ret
      exact ⟨_, rfl, HG.out, HI.out⟩
    case inl =>
      go_wp2
      refine wp_normal ?_
      go_region_law (go_simp; go_at_call 21; refine (rot3_zero _ _ _ _ true _ (IB.up _ _ HI0.out (by repeat (first | exact Grow.refl _ | refine Grow.drew ?_ | refine Grow.alloc ?_ _))) (by simp) (by omega)).mono ?_; rintro e w2 h2; obtain ⟨rfl, hg2, hz2⟩ := TuQ.zero h2; have HZ := Lib.hid hz2; have HG2 := Lib.hid (GX.grow (w := w) hg2 (HG0.out.trans (by repeat (first | exact Grow.refl _ | refine Grow.drew ?_ | refine Grow.alloc ?_ _))) (fun k hk => by omega)); have k2 := (hg2.cell _ 0 (by simpa using hlq) (by simp)).trans kn; clear h2 hg2 hz2)
      obtain ⟨c0, f0⟩ := HZ.out.2 0 0 (by simp)
      obtain ⟨c1, f1⟩ := HZ.out.2 1 0 (by simp)
      obtain ⟨c2, f2⟩ := HZ.out.2 2 0 (by simp)
      have hlist : ((((List.replicate 3 (0 : Int)).set 0 1).set 1 1).set 2 1) = gC 3 5 := by kernel_rfl
      have HIB : Hid (IB (w.heap.size + 1) (gC 3 5) (World.drew (World.setCell (World.drew (World.setCell (World.drew (World.setCell w2 ⟨w.heap.size + 1, 0, none⟩ (.int .i64 1))) ⟨w.heap.size + 1, 1, none⟩ (.int .i64 1))) ⟨w.heap.size + 1, 2, none⟩ (.int .i64 1)))) := IB.cast (show IB (w.heap.size + 1) ((((List.replicate 3 (0 : Int)).set 0 1).set 1 1).set 2 1) (World.drew (World.setCell (World.drew (World.setCell (World.drew (World.setCell w2 ⟨w.heap.size + 1, 0, none⟩ (.int .i64 1))) ⟨w.heap.size + 1, 1, none⟩ (.int .i64 1))) ⟨w.heap.size + 1, 2, none⟩ (.int .i64 1))) from (IB.up _ _ (IB.set (j := 2) (IB.up _ _ (IB.set (j := 1) (IB.up _ _ (IB.set (j := 0) HZ.out 1) (Grow.refl _).drew) 1) (Grow.refl _).drew) 1) (Grow.refl _).drew)) hlist
      have HGW : Hid (Grow w (World.drew (World.setCell (World.drew (World.setCell (World.drew (World.setCell w2 ⟨w.heap.size + 1, 0, none⟩ (.int .i64 1))) ⟨w.heap.size + 1, 1, none⟩ (.int .i64 1))) ⟨w.heap.size + 1, 2, none⟩ (.int .i64 1)))) := ((Grow.setCell ((Grow.setCell ((Grow.setCell HG2.out (p := ⟨w.heap.size + 1, 0, none⟩) (by simp) (.int .i64 1)).trans (Grow.refl _).drew) (p := ⟨w.heap.size + 1, 1, none⟩) (by simp) (.int .i64 1)).trans (Grow.refl _).drew) (p := ⟨w.heap.size + 1, 2, none⟩) (by simp) (.int .i64 1)).trans (Grow.refl _).drew)
      have k3 : ((World.drew (World.setCell (World.drew (World.setCell (World.drew (World.setCell w2 ⟨w.heap.size + 1, 0, none⟩ (.int .i64 1))) ⟨w.heap.size + 1, 1, none⟩ (.int .i64 1))) ⟨w.heap.size + 1, 2, none⟩ (.int .i64 1)))).cell? ⟨w.heap.size, 0, none⟩ = some (.int .i64 1) := by go_simp
      have HK3 := Lib.hid k3
      clear k3 hlist
      go_wp2
      go_region
      go_wp2
      go_region
      go_wp2
      go_region
      go_wp2
      go_roundw
      case rel => exact .inr ⟨rfl, HIB.out, HGW.out, HK3.out⟩
      case measure => simp [intOf]
set_option maxRecDepth 100000 in
set_option maxHeartbeats 16000000 in
theorem coord3_6 (w : World) : Calls Tryd.prog 12 #[.agg #[.int .i64 1], .slice none 0 0, .int .i64 6] w (CoQ 3 6 w) := by
  have hmk : ∀ w : World, (Instr.makeSlice 22 (.int .i64 3) (.int .i64 3)).run Tryd.prog w = .ok (.slice (some ⟨w.heap.size, 0, none⟩) 3 3) (w.alloc (.cells (madeCells #[.int .i64 0] 3) 3)) := fun w => run_make_row' (P := Tryd.prog) 22 3 (.int .i64 0) 8 undI infoI rfl .i64 .i64 3 (by omega) (by omega) w
  have heq : ∀ w, (binOp .eql 22 (.slice none 0 0) (.slice none 0 0)).run Tryd.prog w = .ok (.bool true) w := fun w => by simp only [binOp]; simp [run_equal_slice_nil (P := Tryd.prog) w 22 3 none 0 0 undI]
  have HG0 := Lib.hid (((Grow.refl w).alloc (.cells #[.int .i64 1] 37)).alloc (.cells (madeCells #[.int .i64 0] 3) 3))
  have HI0 := Lib.hid (IB.made (w.alloc (.cells #[.int .i64 1] 37)) 3)
  rw [show (w.alloc (.cells #[.int .i64 1] 37)).heap.size = w.heap.size + 1 by simp] at HI0
  have kn : ((w.alloc (.cells #[.int .i64 1] 37)).alloc (.cells (madeCells #[.int .i64 0] 3) 3)).cell? ⟨w.heap.size, 0, none⟩ = some (.int .i64 1) := by go_simp
  go_enter Tryd.func12, Tryd.ntmps12
  go_wp2
  clear hmk heq
  generalize (w.alloc (.cells #[.int .i64 1] 37)).alloc (.cells (madeCells #[.int .i64 0] 3) 3) = W0 at *
  have hlq := cell_ltH kn
  go_loopw [2, 7] (fun pos n wr => (n = .int .i64 0 ∧ pos = .int .i64 6 ∧ wr = W0) ∨ (n = .int .i64 1 ∧ IB (w.heap.size + 1) (gC 3 6) wr ∧ Grow w wr ∧ wr.cell? ⟨w.heap.size, 0, none⟩ = some (.int .i64 1))) (fun _ n _ => (1 - intOf n).toNat)
  case atStart => exact .inl ⟨rfl, rfl, rfl⟩
  case round =>
    rcases hrel with ⟨rfl, rfl, rfl⟩ | ⟨rfl, hib, hg, hkn⟩
    case inr =>
      have HI := Lib.hid hib; have HG := Lib.hid hg
      clear hib hg kn
      go_wp2
      go_ret
      exact ⟨_, rfl, HG.out, HI.out⟩
    case inl =>
      go_wp2
      refine wp_normal ?_
      go_region_law (go_simp; go_at_call 21; refine (rot3_zero _ _ _ _ true _ (IB.up _ _ HI0.out (by repeat (first | exact Grow.refl _ | refine Grow.drew ?_ | refine Grow.alloc ?_ _))) (by simp) (by omega)).mono ?_; rintro e w2 h2; obtain ⟨rfl, hg2, hz2⟩ := TuQ.zero h2; have HZ := Lib.hid hz2; have HG2 := Lib.hid (GX.grow (w := w) hg2 (HG0.out.trans (by repeat (first | exact Grow.refl _ | refine Grow.drew ?_ | refine Grow.alloc ?_ _))) (fun k hk => by omega)); have k2 := (hg2.cell _ 0 (by simpa using hlq) (by simp)).trans kn; clear h2 hg2 hz2)
      obtain ⟨c0, f0⟩ := HZ.out.2 0 0 (by simp)
      obtain ⟨c1, f1⟩ := HZ.out.2 1 0 (by simp)
      obtain ⟨c2, f2⟩ := HZ.out.2 2 0 (by simp)
      have hlist : ((((List.replicate 3 (0 : Int)).set 0 1).set 1 0).set 2 1) = gC 3 6 := by kernel_rfl
      have HIB : Hid (IB (w.heap.size + 1) (gC 3 6) (World.drew (World.setCell (World.drew (World.setCell (World.drew (World.setCell w2 ⟨w.heap.size + 1, 0, none⟩ (.int .i64 1))) ⟨w.heap.size + 1, 1, none⟩ (.int .i64 0))) ⟨w.heap.size + 1, 2, none⟩ (.int .i64 1)))) := IB.cast (show IB (w.heap.size + 1) ((((List.replicate 3 (0 : Int)).set 0 1).set 1 0).set 2 1) (World.drew (World.setCell (World.drew (World.setCell (World.drew (World.setCell w2 ⟨w.heap.size + 1, 0, none⟩ (.int .i64 1))) ⟨w.heap.size + 1, 1, none⟩ (.int .i64 0))) ⟨w.heap.size + 1, 2, none⟩ (.int .i64 1))) from (IB.up _ _ (IB.set (j := 2) (IB.up _ _ (IB.set (j := 1) (IB.up _ _ (IB.set (j := 0) HZ.out 1) (Grow.refl _).drew) 0) (Grow.refl _).drew) 1) (Grow.refl _).drew)) hlist
      have HGW : Hid (Grow w (World.drew (World.setCell (World.drew (World.setCell (World.drew (World.setCell w2 ⟨w.heap.size + 1, 0, none⟩ (.int .i64 1))) ⟨w.heap.size + 1, 1, none⟩ (.int .i64 0))) ⟨w.heap.size + 1, 2, none⟩ (.int .i64 1)))) := ((Grow.setCell ((Grow.setCell ((Grow.setCell HG2.out (p := ⟨w.heap.size + 1, 0, none⟩) (by simp) (.int .i64 1)).trans (Grow.refl _).drew) (p := ⟨w.heap.size + 1, 1, none⟩) (by simp) (.int .i64 0)).trans (Grow.refl _).drew) (p := ⟨w.heap.size + 1, 2, none⟩) (by simp) (.int .i64 1)).trans (Grow.refl _).drew)
      have k3 : ((World.drew (World.setCell (World.drew (World.setCell (World.drew (World.setCell w2 ⟨w.heap.size + 1, 0, none⟩ (.int .i64 1))) ⟨w.heap.size + 1, 1, none⟩ (.int .i64 0))) ⟨w.heap.size + 1, 2, none⟩ (.int .i64 1)))).cell? ⟨w.heap.size, 0, none⟩ = some (.int .i64 1) := by go_simp
      have HK3 := Lib.hid k3
      clear k3 hlist
      go_wp2
      go_region
      go_wp2
      go_region
      go_wp2
      go_region
      go_wp2
      go_roundw
      case rel => exact .inr ⟨rfl, HIB.out, HGW.out, HK3.out⟩
      case measure => simp [intOf]
set_option maxRecDepth 100000 in
set_option maxHeartbeats 16000000 in
theorem coord3_7 (w : World) : Calls Tryd.prog 12 #[.agg #[.int .i64 1], .slice none 0 0, .int .i64 7] w (CoQ 3 7 w) := by
  have hmk : ∀ w : World, (Instr.makeSlice 22 (.int .i64 3) (.int .i64 3)).run Tryd.prog w = .ok (.slice (some ⟨w.heap.size, 0, none⟩) 3 3) (w.alloc (.cells (madeCells #[.int .i64 0] 3) 3)) := fun w => run_make_row' (P := Tryd.prog) 22 3 (.int .i64 0) 8 undI infoI rfl .i64 .i64 3 (by omega) (by omega) w
  have heq : ∀ w, (binOp .eql 22 (.slice none 0 0) (.slice none 0 0)).run Tryd.prog w = .ok (.bool true) w := fun w => by simp only [binOp]; simp [run_equal_slice_nil (P := Tryd.prog) w 22 3 none 0 0 undI]
  have HG0 := Lib.hid (((Grow.refl w).alloc (.cells #[.int .i64 1] 37)).alloc (.cells (madeCells #[.int .i64 0] 3) 3))
  have HI0 := Lib.hid (IB.made (w.alloc (.cells #[.int .i64 1] 37)) 3)
  rw [show (w.alloc (.cells #[.int .i64 1] 37)).heap.size = w.heap.size + 1 by simp] at HI0
  have kn : ((w.alloc (.cells #[.int .i64 1] 37)).alloc (.cells (madeCells #[.int .i64 0] 3) 3)).cell? ⟨w.heap.size, 0, none⟩ = some (.int .i64 1) := by go_simp
  go_enter Tryd.func12, Tryd.ntmps12
  go_wp2
  clear hmk heq
  generalize (w.alloc (.cells #[.int .i64 1] 37)).alloc (.cells (madeCells #[.int .i64 0] 3) 3) = W0 at *
  have hlq := cell_ltH kn
  go_loopw [2, 7] (fun pos n wr => (n = .int .i64 0 ∧ pos = .int .i64 7 ∧ wr = W0) ∨ (n = .int .i64 1 ∧ IB (w.heap.size + 1) (gC 3 7) wr ∧ Grow w wr ∧ wr.cell? ⟨w.heap.size, 0, none⟩ = some (.int .i64 1))) (fun _ n _ => (1 - intOf n).toNat)
  case atStart => exact .inl ⟨rfl, rfl, rfl⟩
  case round =>
    rcases hrel with ⟨rfl, rfl, rfl⟩ | ⟨rfl, hib, hg, hkn⟩
    case inr =>
      have HI := Lib.hid hib; have HG := Lib.hid hg
      clear hib hg kn
      go_wp2
      go_ret
      exact ⟨_, rfl, HG.out, HI.out⟩
    case inl =>
      go_wp2
      refine wp_normal ?_
      go_region_law (go_simp; go_at_call 21; refine (rot3_zero _ _ _ _ true _ (IB.up _ _ HI0.out (by repeat (first | exact Grow.refl _ | refine Grow.drew ?_ | refine Grow.alloc ?_ _))) (by simp) (by omega)).mono ?_; rintro e w2 h2; obtain ⟨rfl, hg2, hz2⟩ := TuQ.zero h2; have HZ := Lib.hid hz2; have HG2 := Lib.hid (GX.grow (w := w) hg2 (HG0.out.trans (by repeat (first | exact Grow.refl _ | refine Grow.drew ?_ | refine Grow.alloc ?_ _))) (fun k hk => by omega)); have k2 := (hg2.cell _ 0 (by simpa using hlq) (by simp)).trans kn; clear h2 hg2 hz2)
      obtain ⟨c0, f0⟩ := HZ.out.2 0 0 (by simp)
      obtain ⟨c1, f1⟩ := HZ.out.2 1 0 (by simp)
      obtain ⟨c2, f2⟩ := HZ.out.2 2 0 (by simp)
      have hlist : ((((List.replicate 3 (0 : Int)).set 0 0).set 1 0).set 2 1) = gC 3 7 := by kernel_rfl
      have HIB : Hid (IB (w.heap.size + 1) (gC 3 7) (World.drew (World.setCell (World.drew (World.setCell (World.drew (World.setCell w2 ⟨w.heap.size + 1, 0, none⟩ (.int .i64 0))) ⟨w.heap.size + 1, 1, none⟩ (.int .i64 0))) ⟨w.heap.size + 1, 2, none⟩ (.int .i64 1)))) := IB.cast (show IB (w.heap.size + 1) ((((List.replicate 3 (0 : Int)).set 0 0).set 1 0).set 2 1) (World.drew (World.setCell (World.drew (World.setCell (World.drew (World.setCell w2 ⟨w.heap.size + 1, 0, none⟩ (.int .i64 0))) ⟨w.heap.size + 1, 1, none⟩ (.int .i64 0))) ⟨w.heap.size + 1, 2, none⟩ (.int .i64 1))) from (IB.up _ _ (IB.set (j := 2) (IB.up _ _ (IB.set (j := 1) (IB.up _ _ (IB.set (j := 0) HZ.out 0) (Grow.refl _).drew) 0) (Grow.refl _).drew) 1) (Grow.refl _).drew)) hlist
      have HGW : Hid (Grow w (World.drew (World.setCell (World.drew (World.setCell (World.drew (World.setCell w2 ⟨w.heap.size + 1, 0, none⟩ (.int .i64 0))) ⟨w.heap.size + 1, 1, none⟩ (.int .i64 0))) ⟨w.heap.size + 1, 2, none⟩ (.int .i64 1)))) := ((Grow.setCell ((Grow.setCell ((Grow.setCell HG2.out (p := ⟨w.heap.size + 1, 0, none⟩) (by simp) (.int .i64 0)).trans (Grow.refl _).drew) (p := ⟨w.heap.size + 1, 1, none⟩) (by simp) (.int .i64 0)).trans (Grow.refl _).drew) (p := ⟨w.heap.size + 1, 2, none⟩) (by simp) (.int .i64 1)).trans (Grow.refl _).drew)
      have k3 : ((World.drew (World.setCell (World.drew (World.setCell (World.drew (World.setCell w2 ⟨w.heap.size + 1, 0, none⟩ (.int .i64 0))) ⟨w.heap.size + 1, 1, none⟩ (.int .i64 0))) ⟨w.heap.size + 1, 2, none⟩ (.int .i64 1)))).cell? ⟨w.heap.size, 0, none⟩ = some (.int .i64 1) := by go_simp
      have HK3 := Lib.hid k3
      clear k3 hlist
      go_wp2
      go_region
      go_wp2
      go_region
      go_wp2
      go_region
      go_wp2
      go_roundw
      case rel => exact .inr ⟨rfl, HIB.out, HGW.out, HK3.out⟩
      case measure => simp [intOf]
end Go.Proofs.YtkcpjndelcfmhaaDoor
