import Derived.Test.YtemobphkgbhhhaaExtC
import Derived.Test.YtemobphkgbhhhaaGeoD
import Derived.OwnWalk
import Derived.Deep.OwnRows
import Derived.RegionTactic
import Derived.ChangeAlike
import Derived.Defers
import Derived.Recover
namespace Go.Proofs.Ytemobphkgbhhhaa
open Go.ChangeShapes Go.WideShapes Go.ChangeAt Go.RowKit Go.GrowR
set_option linter.unusedVariables false
set_option linter.unusedSimpArgs false
theorem idleBd (p0 p1 : Addr) (w : World) :
    CallsD Try.prog 49 #[.pointer (some p0), .pointer (some p1)] .returning w fun e u' w' => e = .returned (.tuple #[]) ∧ u' = .returning ∧ w' = w := by
  refine callsD_of_wpS Try.func49 rfl fun c₀ cs hu => ?_
  apply wpS_seq
  apply wpS_region
  simp [wpOpsS, go_sem, recoverD, hu, Try.ntmps49, Exit.thenS]
  refine wpS_cond (t := false) (by simp [Act.eval, Array.replicate]) ?_
  simp only [Bool.false_eq_true, if_false]
  refine wpS_of_wp ?_
  go_wp2
  cases c₀
  simp_all [bodyPostS, results, Try.results49, Exit.thenS]

abbrev pInfN : Nat := 9218868437227405312
abbrev nInfN : Nat := 18442240474082181120
theorem made_FB (s : Nat) (w : World) : FB w.heap.size (List.replicate s 0) (w.alloc (.cells (madeCells #[.float .f64 0] s) 36)) := by
  refine ⟨by simp, fun i x hi => ⟨?_, by go_simp⟩⟩
  rw [List.getElem?_replicate] at hi
  split at hi
  · next hk =>
    cases hi
    rw [cell_of_row _ _ _ _ _ _ (heap_alloc_new w _)]
    have h1 : i % 1 = 0 := Nat.mod_one i
    simp [madeCells, hk, h1]
  · cases hi
/-- a row of noughts that was made *)-/
def MadeF (B s lo hi : Nat) (V : Value) (w : World) : Prop := ∃ b, V = .slice (some ⟨b, 0, none⟩) s s ∧ B ≤ b ∧ lo ≤ b ∧ b < hi ∧ FB b (List.replicate s 0) w
theorem MadeF.up {B s lo hi : Nat} {V : Value} : Up (MadeF B s lo hi V) := fun _ _ ⟨b, h1, h0, h2, h3, h4⟩ hg => ⟨b, h1, h0, h2, h3, FB.up _ _ h4 hg⟩
theorem MadeF.mk {B : Nat} (s : Nat) (w : World) (hB : B ≤ w.heap.size) : MadeF B s w.heap.size (w.alloc (.cells (madeCells #[.float .f64 0] s) 36)).heap.size (.slice (some ⟨w.heap.size, 0, none⟩) s s) (w.alloc (.cells (madeCells #[.float .f64 0] s) 36)) := ⟨_, rfl, hB, Nat.le_refl _, by simp, made_FB s w⟩
def fillL (p k s : Nat) : List Nat := List.replicate k p ++ List.replicate (s - k) 0
theorem fillL_zero (p s : Nat) : fillL p 0 s = List.replicate s 0 := by simp [fillL]
theorem fillL_full (p s : Nat) : fillL p s s = List.replicate s p := by simp [fillL]
theorem fillL_set {p k s : Nat} (h : k < s) : (fillL p k s).set k p = fillL p (k + 1) s := by
  unfold fillL
  rw [List.set_append_right _ _ (by simp), List.length_replicate, Nat.sub_self, show s - k = (s - (k + 1)) + 1 by omega, List.replicate_succ, List.set_cons_zero, List.replicate_succ' (n := k)]
  simp
theorem fillL_at {p k s : Nat} (h : k < s) : (fillL p k s)[k]? = some 0 := by
  unfold fillL
  rw [List.getElem?_append_right (by simp), List.length_replicate, Nat.sub_self, List.getElem?_replicate, if_pos (by omega)]
theorem infoFb : (Try.prog.info? 36).map (fun i => (i.zero, i.size, i.bytes)) = some (some (.float .f64 0), 1, 8) := by kernel_rfl
theorem undFb : Try.prog.underlying 88 = some (.slice 36) := by kernel_rfl
/-- a new box of a layout, empty *)-/
def NBx (B : Nat) (n : Int) (s : Nat) (w : World) (e : Ending) (w' : World) : Prop := ∃ b b1 c1 b2 c2, e = .returned (.pointer (some ⟨b, 0, none⟩)) ∧ Grow w w' ∧ BO B n b b1 c1 b2 c2 s (List.replicate s pInfN) (List.replicate s nInfN) w'
set_option maxRecDepth 100000 in
set_option maxHeartbeats 4000000 in
theorem newBounds_calls (B : Nat) (n : Int) (s : Nat) (w : World) (h1 : 1 ≤ n) (h9 : n ≤ 9) (hs : strideN n = s) (s9 : s ≤ 9) (hB : B ≤ w.heap.size) : Calls Try.prog 131 #[.int .i64 n] w (NBx B n s w) := by
  have HL := Lib.hid (fun w => layStride n s w h1 h9 hs); clear hs h1 h9
  have hmk := fun w => run_make_row' (P := Try.prog) 88 36 (.float .f64 0) 8 undFb infoFb rfl .i64 .i64 s (by omega) (by omega) w
  go_enter Try.func131, Try.ntmps131
  go_wp2_with (go_at_call 91; refine (HL.out _).mono ?_; rintro e w ⟨rfl, rfl⟩)
  refine wp_region_grow (fun i => if i = 1 then some (fun lo hi V ww => MadeF w.heap.size s lo hi V ww) else if i = 3 then some (fun lo hi V ww => MadeF w.heap.size s lo hi V ww) else none) (by kernel_rfl) (by kernel_rfl) ?_ ?_
  · intro i Φ h lo hi v
    (repeat' split at h) <;> cases h
    · exact MadeF.up
    · exact MadeF.up
  repeat (first
    | (refine wpGrow_skip (by rfl) ?_; simp only [Act.put, List.setIfInBounds_toArray, List.set_cons_zero, List.set_cons_succ, Nat.reduceAdd])
    | (refine wpGrow_det' (by rfl) (by rfl) ?_; apply Exists.intro; refine ⟨fun w' hc hh => ?_, ?_⟩; (have hcell := grow_cell hc; clear hc hh; go_simp; rfl); simp only [Act.put, List.setIfInBounds_toArray, List.set_cons_zero, List.set_cons_succ, Nat.reduceAdd]))
  refine wpGrow_eff' (by rfl) (by rfl) (fun w' hc hh => ?_) (fun v lo hi w' hap hc hh hv => ?_)
  · have hsz := hc.size
    clear hc hh
    go_simp
    exact EffVal.mk ((Grow.refl w').alloc _) (MadeF.mk s w' hsz)
  obtain ⟨b1, rfl, hw1, l1, l2, -⟩ := hv
  clear hc hh hap w'
  simp only [Act.put, List.setIfInBounds_toArray, List.set_cons_zero, List.set_cons_succ, Nat.reduceAdd]
  repeat (first
    | (refine wpGrow_skip (by rfl) ?_; simp only [Act.put, List.setIfInBounds_toArray, List.set_cons_zero, List.set_cons_succ, Nat.reduceAdd])
    | (refine wpGrow_det' (by rfl) (by rfl) ?_; apply Exists.intro; refine ⟨fun w' hc hh => ?_, ?_⟩; (have hcell := grow_cell hc; clear hc hh; go_simp; rfl); simp only [Act.put, List.setIfInBounds_toArray, List.set_cons_zero, List.set_cons_succ, Nat.reduceAdd]))
  refine wpGrow_eff' (by rfl) (by rfl) (fun w' hc hh => ?_) (fun v lo hi w' hap hc hh hv => ?_)
  · have hsz := hc.size
    clear hc hh
    go_simp
    exact EffVal.mk ((Grow.refl w').alloc _) (MadeF.mk s w' hsz)
  obtain ⟨b2, rfl, hw2, m1, m2, -⟩ := hv
  have hne : b1 ≠ b2 := by have := hap 1 _ _ rfl; omega
  clear hc hh hap w'
  simp only [Act.put, List.setIfInBounds_toArray, List.set_cons_zero, List.set_cons_succ, Nat.reduceAdd]
  repeat (first
    | (refine wpGrow_skip (by rfl) ?_; simp only [Act.put, List.setIfInBounds_toArray, List.set_cons_zero, List.set_cons_succ, Nat.reduceAdd])
    | (refine wpGrow_det' (by rfl) (by rfl) ?_; apply Exists.intro; refine ⟨fun w' hc hh => ?_, ?_⟩; (have hcell := grow_cell hc; clear hc hh; go_simp; rfl); simp only [Act.put, List.setIfInBounds_toArray, List.set_cons_zero, List.set_cons_succ, Nat.reduceAdd]))
  refine wpGrow_nil ?_
  intro w1 hg hh
  have hF1 : FB b1 (List.replicate s 0) w1 := by obtain ⟨b', e', -, -, -, h⟩ := (hh 1).1; cases e'; exact h
  have hF2 : FB b2 (List.replicate s 0) w1 := by obtain ⟨b', e', -, -, -, h⟩ := (hh 3).1; cases e'; exact h
  have HF1 := Lib.hid hF1; have HF2 := Lib.hid hF2; have HG := Lib.hid hg
  clear hh hF1 hF2 hg hmk
  go_wp2
  go_loopw [6, 14] (fun _ vi wr => ∃ k : Nat, k ≤ s ∧ vi = .int .i64 k ∧ FB b1 (fillL pInfN k s) wr ∧ FB b2 (fillL nInfN k s) wr ∧ Grow w wr) (fun _ vi _ => (s - intOf vi).toNat)
  case atStart => exact ⟨0, Nat.zero_le _, rfl, by rw [fillL_zero]; exact HF1.out, by rw [fillL_zero]; exact HF2.out, HG.out⟩
  case round =>
    obtain ⟨k, hk, rfl, hf1, hf2, hg⟩ := hrel
    have HR1 := Lib.hid hf1; have HR2 := Lib.hid hf2; have HGR := Lib.hid hg
    clear hg
    by_cases hlt : k < s
    · obtain ⟨x1, y1⟩ := hf1.2 k 0 (fillL_at hlt)
      obtain ⟨x2, y2⟩ := hf2.2 k 0 (fillL_at hlt)
      have hlt1 := hf1.1; have hlt2 := hf2.1
      clear hf1 hf2
      go_wp2_with (first
        | (go_at_call 133; refine (inf_pos _).mono ?_; rintro e w' ⟨rfl, rfl⟩)
        | (go_at_call 133; refine (inf_neg _).mono ?_; rintro e w' ⟨rfl, rfl⟩))
      go_roundw
      case rel => exact ⟨k + 1, by omega, by go_num, by rw [← fillL_set hlt]; exact (HR1.out.set _).other (Ne.symm hne) _, by rw [← fillL_set hlt]; exact (HR2.out.other hne _).set _, (HGR.out.setCell (by simpa using hw1) _).setCell (by simpa using hw2) _⟩
      case measure => simp [intOf]; omega
    · have hke : k = s := by omega
      have HK := Lib.hid hke
      clear hke hf1 hf2
      go_wp2
      go_ret
      have g1 := HR1.out; have g2 := HR2.out
      rw [HK.out, fillL_full] at g1 g2
      have hgr := HGR.out
      have hsz := hgr.size
      have hl1 := g1.1; have hl2 := g2.1
      refine ⟨_, b1, s, b2, s, rfl, hgr.alloc _, ⟨by omega, by omega, by omega, by omega, by omega, hne, Nat.le_refl _, Nat.le_refl _, by go_simp, by go_simp, by go_simp, FB.up _ _ g1 ((Grow.refl wr).alloc _), FB.up _ _ g2 ((Grow.refl wr).alloc _)⟩⟩
end Go.Proofs.Ytemobphkgbhhhaa
