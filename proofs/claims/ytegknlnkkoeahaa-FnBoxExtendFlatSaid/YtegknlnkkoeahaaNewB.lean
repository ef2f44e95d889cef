import Derived.Test.YtegknlnkkoeahaaAppStep
import Derived.Test.YtegknlnkkoeahaaMinC
import Derived.Test.YtegknlnkkoeahaaBoxO
import Derived.Test.YtegknlnkkoeahaaFStride
namespace Go.Proofs.Ytegknlnkkoeahaa
open Go.ChangeShapes Go.WideShapes Go.ChangeAt Go.RowKit Go.GrowR
set_option linter.unusedVariables false
set_option linter.unusedSimpArgs false

abbrev pInf : Nat := 9218868437227405312
abbrev nInf : Nat := 18442240474082181120
abbrev reps (k x : Nat) : List Value := (List.replicate k x).map (.float .f64)
theorem reps_succ (k x : Nat) : reps (k + 1) x = reps k x ++ [.float .f64 x] := by unfold reps; rw [List.replicate_succ', List.map_append]; rfl
theorem reps_len (k x : Nat) : (reps k x).length = k := by simp [reps]
/-- a box under way: its variable at block b, its rows of its own behind block B -/
def NB (B b : Nat) (n : Int) (V1 V2 : Value) (xs ys : List Value) (w : World) : Prop :=
  b < B ∧ w.cell? ⟨b, 0, none⟩ = some (.int .i64 n) ∧ w.cell? ⟨b, 1, none⟩ = some V1 ∧ w.cell? ⟨b, 2, none⟩ = some V2 ∧ (∀ o, w.frozen? ⟨b, o, none⟩ = false) ∧ VOwn 42 B V1 xs w ∧ VOwn 42 B V2 ys w ∧ (∀ g, V1.ownBlock = some g → V2.ownBlock ≠ some g) ∧ B ≤ w.heap.size
theorem own_ltH {e : TypeId} {B : Nat} {v : Value} {xs : List Value} {w : World} (h : VOwn e B v xs w) : ∀ g, v.ownBlock = some g → g < w.heap.size := fun g hg => (World.ownsRow.lt h g hg).2
theorem NB.step1 {B b : Nat} {n : Int} {V1 V2 V1' : Value} {xs ys zs : List Value} {w w' : World} (h : NB B b n V1 V2 xs ys w) (hg : w.grownBy w' V1.ownBlock) (ho : VOwn 42 B V1' zs w') (hw : V1'.ownBlock = V1.ownBlock ∨ V1'.ownBlock = some w.heap.size) :
    NB B b n V1' V2 zs ys (w'.setCell ⟨b, 1, none⟩ V1') := by
  obtain ⟨hb, c0, c1, c2, hf, o1, o2, hne, hB⟩ := h
  have hlt : b < w.heap.size := cell_ltH c0
  have hbo : ∀ g, V1.ownBlock = some g → B ≤ g := o1.lt
  have keep : ∀ o, w'.cell? ⟨b, o, none⟩ = w.cell? ⟨b, o, none⟩ := fun o => World.cell?_of_block (w := w) (hg.block b hlt (fun e => by have := hbo b e.symm; omega))
  have fz : ∀ o, w'.frozen? ⟨b, o, none⟩ = w.frozen? ⟨b, o, none⟩ := fun o => World.frozen?_of_block (w := w) (hg.block b hlt (fun e => by have := hbo b e.symm; omega))
  refine ⟨hb, ?_, ?_, ?_, fun o => by rw [World.frozen?_setCell, fz]; exact hf o, ho.setCell hb _, ?_, ?_, ?_⟩
  · rw [World.cell?_setCell_other _ _ _ _ (by simp), keep]; exact c0
  · exact World.cell?_setCell_same _ _ _ ((keep 1).trans c1)
  · rw [World.cell?_setCell_other _ _ _ _ (by simp), keep]; exact c2
  · exact (o2.grown hg (fun g hg2 he => hne g he.symm hg2)).setCell hb _
  · intro g hg1 hg2
    rcases hw with h | h
    · exact hne g (h ▸ hg1) hg2
    · rw [h] at hg1; cases hg1; have := own_ltH o2 _ hg2; omega
  · have := hg.size; simp [World.setCell]; omega
theorem NB.step2 {B b : Nat} {n : Int} {V1 V2 V2' : Value} {xs ys zs : List Value} {w w' : World} (h : NB B b n V1 V2 xs ys w) (hg : w.grownBy w' V2.ownBlock) (ho : VOwn 42 B V2' zs w') (hw : V2'.ownBlock = V2.ownBlock ∨ V2'.ownBlock = some w.heap.size) :
    NB B b n V1 V2' xs zs (w'.setCell ⟨b, 2, none⟩ V2') := by
  obtain ⟨hb, c0, c1, c2, hf, o1, o2, hne, hB⟩ := h
  have hlt : b < w.heap.size := cell_ltH c0
  have hbo : ∀ g, V2.ownBlock = some g → B ≤ g := o2.lt
  have keep : ∀ o, w'.cell? ⟨b, o, none⟩ = w.cell? ⟨b, o, none⟩ := fun o => World.cell?_of_block (w := w) (hg.block b hlt (fun e => by have := hbo b e.symm; omega))
  have fz : ∀ o, w'.frozen? ⟨b, o, none⟩ = w.frozen? ⟨b, o, none⟩ := fun o => World.frozen?_of_block (w := w) (hg.block b hlt (fun e => by have := hbo b e.symm; omega))
  refine ⟨hb, ?_, ?_, ?_, fun o => by rw [World.frozen?_setCell, fz]; exact hf o, ?_, ho.setCell hb _, ?_, ?_⟩
  · rw [World.cell?_setCell_other _ _ _ _ (by simp), keep]; exact c0
  · rw [World.cell?_setCell_other _ _ _ _ (by simp), keep]; exact c1
  · exact World.cell?_setCell_same _ _ _ ((keep 2).trans c2)
  · exact (o1.grown hg (fun g hg1 he => hne g hg1 he.symm)).setCell hb _
  · intro g hg1 hg2
    rcases hw with h | h
    · exact hne g hg1 (h ▸ hg2)
    · rw [h] at hg2; cases hg2; have := own_ltH o1 _ hg1; omega
  · have := hg.size; simp [World.setCell]; omega
theorem NB.pre {B b : Nat} {n : Int} {V1 V2 V : Value} {xs ys : List Value} {w w' : World} (h : NB B b n V1 V2 xs ys w) (hV : V = V1 ∨ V = V2) (hg : w.grownBy w' V.ownBlock) :
    w'.cell? ⟨b, 1, none⟩ = some V1 ∧ w'.cell? ⟨b, 2, none⟩ = some V2 ∧ (∀ o, w'.frozen? ⟨b, o, none⟩ = false) := by
  obtain ⟨hb, c0, c1, c2, hf, o1, o2, hne, hB⟩ := h
  have hlt : b < w.heap.size := cell_ltH c0
  have hbo : ∀ g, V.ownBlock = some g → B ≤ g := by rcases hV with rfl | rfl; exact o1.lt; exact o2.lt
  have keep : ∀ o, w'.cell? ⟨b, o, none⟩ = w.cell? ⟨b, o, none⟩ := fun o => World.cell?_of_block (w := w) (hg.block b hlt (fun e => by have := hbo b e.symm; omega))
  have fz : ∀ o, w'.frozen? ⟨b, o, none⟩ = w.frozen? ⟨b, o, none⟩ := fun o => World.frozen?_of_block (w := w) (hg.block b hlt (fun e => by have := hbo b e.symm; omega))
  exact ⟨(keep 1).trans c1, (keep 2).trans c2, fun o => (fz o).trans (hf o)⟩
theorem NB.grow {B b : Nat} {n : Int} {V1 V2 V : Value} {xs ys : List Value} {w w' w0 : World} (h : NB B b n V1 V2 xs ys w) (hV : V = V1 ∨ V = V2) (hg : w.grownBy w' V.ownBlock) (h0 : Grow w0 w) (hB : w0.heap.size ≤ B) : Grow w0 w' := by
  obtain ⟨hb, c0, c1, c2, hf, o1, o2, hne, hBB⟩ := h
  refine Below.grown h0 hg h0.size (fun g hg => ?_)
  have : B ≤ g := by rcases hV with rfl | rfl; exact o1.lt g hg; exact o2.lt g hg
  omega
theorem growOf {w0 w w' : World} {row : Option Nat} (_h : w.grownBy w' row) (hg : Grow w0 w) : Grow w0 w := hg
theorem NB.up {B b : Nat} {n : Int} {V1 V2 : Value} {xs ys : List Value} : Up (NB B b n V1 V2 xs ys) := fun w w' ⟨hb, c0, c1, c2, hf, o1, o2, hne, hB⟩ hg =>
  ⟨hb, up_cell c0 hg, up_cell c1 hg, up_cell c2 hg, fun o => (frozUp (cell_ltH c0) hg).trans (hf o), VOwn.up _ _ o1 hg, VOwn.up _ _ o2 hg, hne, Nat.le_trans hB hg.size⟩
def NBP (n : Int) (s : Nat) (w : World) (e : Ending) (w' : World) : Prop := ∃ V1 V2, e = .returned (BxV n V1 V2) ∧ VOwn 42 w.heap.size V1 (reps s pInf) w' ∧ VOwn 42 w.heap.size V2 (reps s nInf) w' ∧ (∀ g, V1.ownBlock = some g → V2.ownBlock ≠ some g) ∧ Grow w w'
set_option maxRecDepth 1000000 in
set_option maxHeartbeats 4000000 in
theorem newBox_calls (n : Int) (s : Nat) (w : World) (hs : strideN n = s) (hs9 : s ≤ 9) : Calls Try.prog 48 #[.int .i64 n] w (NBP n s w) := by
  obtain ⟨i0, hi, hz0, hz1, hz2⟩ := info_parts infoF
  have HI := Lib.hid hi; have HZ0 := Lib.hid hz0; have HZ1 := Lib.hid hz1; have HZ2 := Lib.hid hz2; clear hi hz0 hz1 hz2
  have HS := Lib.hid hs; clear hs
  go_enter Try.func48, Try.ntmps48
  go_wp2_with (go_at_call 22; refine (strideS _ _ _ HS.out).mono ?_; rintro e w' ⟨rfl, rfl⟩)
  go_loopw [8] (fun i wr => ∃ (k : Nat) (V1 V2 : Value), k ≤ s ∧ i = .int .i64 k ∧ NB (w.heap.size + 2) (w.heap.size + 1) n V1 V2 (reps k pInf) (reps k nInf) wr ∧ Grow (w.alloc (Obj.cells #[.int .i64 0, .slice none 0 0, .slice none 0 0] 46)) wr) (fun i _ => s - (intOf i).toNat)
  case atStart =>
    exact ⟨0, .slice none 0 0, .slice none 0 0, Nat.zero_le _, rfl, ⟨by omega, by go_simp, by go_simp, by go_simp, fun o => by go_simp, VOwn.nil, VOwn.nil, by simp [Value.ownBlock], by simp⟩, (Grow.refl _).alloc _⟩
  case round =>
    obtain ⟨k, V1, V2, hk, rfl, hnb, hg⟩ := hrel
    have HNB := Lib.hid hnb
    obtain ⟨hbB, c0, c1, c2, hf, o1, o2, hne, hB⟩ := hnb
    obtain ⟨A1, n1, k1, rfl⟩ := o1.isSl
    obtain ⟨A2, n2, k2, rfl⟩ := o2.isSl
    by_cases hlt : k < s
    case neg =>
      have hks : k = s := by omega
      have HKS := Lib.hid hks
      have r0 := up_cell (a := ⟨w.heap.size, 0, none⟩) (v := .int .i64 0) (by go_simp) hg
      have r1 := up_cell (a := ⟨w.heap.size, 1, none⟩) (v := .slice none 0 0) (by go_simp) hg
      have r2 := up_cell (a := ⟨w.heap.size, 2, none⟩) (v := .slice none 0 0) (by go_simp) hg
      have rf : ∀ o, wr.frozen? ⟨w.heap.size, o, none⟩ = false := fun o => (grow_frozen hg _ _ (by simp)).trans (by go_simp)
      have HG := Lib.hid (((Grow.refl w).alloc _).trans hg)
      have HNE := Lib.hid hne; have HO1 := Lib.hid o1; have HO2 := Lib.hid o2
      clear hne o1 o2 hg hB hbB hks
      go_wp2
      refine bodyPost_ret (v := BxV n (.slice A1 n1 k1) (.slice A2 n2 k2)) (by simp [results, Try.results48, go_sem, r0, r1, r2]) rfl ⟨_, _, rfl, ?_, ?_, HNE.out, ((HG.out.setCell (by simp) _).setCell (by simp) _).setCell (by simp) _⟩
      · rw [← HKS.out]; exact (((HO1.out.setCell (by simp) _).setCell (by simp) _).setCell (by simp) _).mono (by omega)
      · rw [← HKS.out]; exact (((HO2.out.setCell (by simp) _).setCell (by simp) _).setCell (by simp) _).mono (by omega)
    case pos =>
      have l0 : w.heap.size + 1 < wr.heap.size := cell_ltH c0
      have HG := Lib.hid hg
      have HNE := Lib.hid hne; have HO1 := Lib.hid o1; have HO2 := Lib.hid o2
      have HF := Lib.hid hf
      clear hne o1 o2 hg hB hbB hf c0 c2
      go_wp2
      go_region_law (first
        | (refine step_append_vsl rfl _ _ 22 rfl (w.heap.size + 2) 42 i0 (.float .f64 0) 8 undF HI.out HZ0.out HZ1.out HZ2.out rfl rfl (VOwn.up _ _ HO1.out (by repeat (first | exact Grow.refl _ | refine Grow.drew ?_ | refine Grow.alloc ?_ _))) rfl (VSl.one (u := .float .f64 pInf) (by go_simp)) (by intro x hx; simp at hx; subst hx; rfl) (by rw [reps_len]; simp [maxLen] at *; omega) (by rw [reps_len]; simp at *; omega) (by have := HNB.out.2.2.2.2.2.2.2.2; simp at *; omega) ?_; intro V' w5 hown5 hgrow5 hwh5; rw [← reps_succ] at hown5; obtain ⟨A1', n1', k1', rfl⟩ := hown5.isSl;
           have hup := NB.up _ _ HNB.out (growOf hgrow5 (by repeat (first | exact Grow.refl _ | refine Grow.drew ?_ | refine Grow.alloc ?_ _)));
           obtain ⟨x1, x2, xf⟩ := NB.pre hup (by first | exact .inl rfl | exact .inr rfl) hgrow5; have HG1 := Lib.hid (NB.grow hup (by first | exact .inl rfl | exact .inr rfl) hgrow5 (HG.out.trans (by repeat (first | exact Grow.refl _ | refine Grow.drew ?_ | refine Grow.alloc ?_ _))) (by simp)); have hst := hup.step1 hgrow5 hown5 hwh5; have HST1 := Lib.hid hst; clear hup hst hown5 hgrow5 hwh5)
        | (go_simp; go_at_call 75; refine (inf_pos _).mono ?_; rintro e w4 ⟨rfl, rfl⟩))
      all_goals
        have HGA := Lib.hid (show Grow (w.alloc (Obj.cells #[.int .i64 0, .slice none 0 0, .slice none 0 0] 46)) (w5.setCell ⟨w.heap.size + 1, 1, none⟩ (.slice A1' n1' k1')) from HG1.out.setCell (by simp) _)
        clear x1 x2 xf
        generalize w5.setCell ⟨w.heap.size + 1, 1, none⟩ (.slice A1' n1' k1') = wA at *
        obtain ⟨-, y0, y1, y2, yf, -, p2, -, -⟩ := HST1.out
        have HP2 := Lib.hid p2
        have lA : w.heap.size + 1 < wA.heap.size := cell_ltH y0
        clear p2 c1 y1
        go_wp2
        go_region_law (first
          | (refine step_append_vsl rfl _ _ 22 rfl (w.heap.size + 2) 42 i0 (.float .f64 0) 8 undF HI.out HZ0.out HZ1.out HZ2.out rfl rfl (VOwn.up _ _ HP2.out (by repeat (first | exact Grow.refl _ | refine Grow.drew ?_ | refine Grow.alloc ?_ _))) rfl (VSl.one (u := .float .f64 nInf) (by go_simp)) (by intro x hx; simp at hx; subst hx; rfl) (by rw [reps_len]; simp [maxLen] at *; omega) (by rw [reps_len]; simp at *; omega) (by have := HST1.out.2.2.2.2.2.2.2.2; simp at *; omega) ?_; intro V' w5 hown5 hgrow5 hwh5; rw [← reps_succ] at hown5; obtain ⟨A2', n2', k2', rfl⟩ := hown5.isSl;
             have hup := NB.up _ _ HST1.out (growOf hgrow5 (by repeat (first | exact Grow.refl _ | refine Grow.drew ?_ | refine Grow.alloc ?_ _)));
             obtain ⟨x1, x2, xf⟩ := NB.pre hup (by first | exact .inl rfl | exact .inr rfl) hgrow5; have HG2 := Lib.hid (NB.grow hup (by first | exact .inl rfl | exact .inr rfl) hgrow5 (HGA.out.trans (by repeat (first | exact Grow.refl _ | refine Grow.drew ?_ | refine Grow.alloc ?_ _))) (by simp)); have hst := hup.step2 hgrow5 hown5 hwh5; have HST2 := Lib.hid hst; clear hup hst hown5 hgrow5 hwh5)
          | (go_simp; go_at_call 75; refine (inf_neg _).mono ?_; rintro e w4 ⟨rfl, rfl⟩))
        all_goals
          clear x1 x2 xf
          have HGB := Lib.hid (show Grow (w.alloc (Obj.cells #[.int .i64 0, .slice none 0 0, .slice none 0 0] 46)) (w5.setCell ⟨w.heap.size + 1, 2, none⟩ (.slice A2' n2' k2')) from HG2.out.setCell (by simp) _)
          go_wp2
          go_roundw
          case rel => exact ⟨k + 1, _, _, by omega, by go_num, HST2.out, HGB.out⟩
          case measure => simp [intOf]; omega
end Go.Proofs.Ytegknlnkkoeahaa
