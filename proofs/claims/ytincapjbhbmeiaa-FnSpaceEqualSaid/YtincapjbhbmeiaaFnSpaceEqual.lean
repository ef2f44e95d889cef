import Derived.Test.YtincapjbhbmeiaaRows
import Derived.Test.YtincapjbhbmeiaaGrow
import Derived.Test.YtincapjbhbmeiaaMem
import Derived.Deep.QuietTactic
import Derived.BigQuiet
import Derived.WalkKit
import Derived.WalkLawsBesides
import Derived.WalkSpells
import Derived.ProofKit
import Derived.Lib.Hide
import Derived.Laws.Cover2
namespace Go.Proofs.Ytincapjbhbmeiaa
open Go.ChangeShapes Go.WideShapes Go.ChangeAt Go.RowKit Go.GrowR
set_option linter.unusedVariables false

abbrev ord (a b : Nat) := FloatKind.f64.format.order a b

theorem isNaN_calls (x : Nat) (w : World) :
    Calls Try.prog 32 #[.float .f64 x] w fun e w' => e = .returned (.bool (FloatKind.f64.format.order x x != some .eq)) ∧ w' = w := by
  go_enter Try.func32, Try.ntmps32
  go_wp2
  go_ret
  exact ⟨rfl, rfl⟩

def eqB (x0 x1 x2 y0 y1 y2 : Nat) : Bool :=
  (FloatKind.f64.format.order x0 y0 == some .eq) && (FloatKind.f64.format.order x1 y1 == some .eq) && ((FloatKind.f64.format.order x2 y2 == some .eq) || ((FloatKind.f64.format.order x2 x2 != some .eq) && (FloatKind.f64.format.order y2 y2 != some .eq)))

set_option maxHeartbeats 1000000 in
theorem equals_calls (b c n m : Nat) (x0 x1 x2 y0 y1 y2 : Nat) (w : World)
    (hx0 : w.cell? ⟨b, 0, none⟩ = some (.float .f64 x0)) (hx1 : w.cell? ⟨b, 1, none⟩ = some (.float .f64 x1)) (hx2 : w.cell? ⟨b, 2, none⟩ = some (.float .f64 x2))
    (hy0 : w.cell? ⟨c, 0, none⟩ = some (.float .f64 y0)) (hy1 : w.cell? ⟨c, 1, none⟩ = some (.float .f64 y1)) (hy2 : w.cell? ⟨c, 2, none⟩ = some (.float .f64 y2)) :
    Calls Try.prog 53 #[.slice (some ⟨b, 0, none⟩) 3 n, .slice (some ⟨c, 0, none⟩) 3 m] w fun e w' => e = .returned (.bool (eqB x0 x1 x2 y0 y1 y2)) ∧ ∃ n, w' = w.drewN n := by
  unfold eqB
  by_cases h0 : (FloatKind.f64.format.order x0 y0 == some .eq) = true
  case neg =>
    simp only [Bool.not_eq_true] at h0
    go_enter Try.func53, Try.ntmps53
    go_wp2
    go_quiet (fail)
    go_wp2
    go_ret
    exact ⟨by simp [h0], _, rfl⟩
  by_cases h1 : (FloatKind.f64.format.order x1 y1 == some .eq) = true
  case neg =>
    simp only [Bool.not_eq_true] at h1
    go_enter Try.func53, Try.ntmps53
    go_wp2
    go_quiet (fail)
    go_wp2
    go_ret
    exact ⟨by simp [h0, h1], _, rfl⟩
  by_cases h2 : (FloatKind.f64.format.order x2 y2 == some .eq) = true
  case pos =>
    go_enter Try.func53, Try.ntmps53
    go_wp2
    go_quiet (fail)
    go_wp2
    go_ret
    exact ⟨by simp [h0, h1, h2], _, rfl⟩
  simp only [Bool.not_eq_true] at h2
  by_cases h3 : (FloatKind.f64.format.order x2 x2 != some .eq) = true
  case neg =>
    simp only [Bool.not_eq_true] at h3
    go_enter Try.func53, Try.ntmps53
    go_wp2
    go_quiet ((go_at_call 32; exact Calls.quiet_of_same (isNaN_calls _ _)))
    go_wp2
    go_ret
    exact ⟨by simp [h0, h1, h2, h3], _, rfl⟩
  go_enter Try.func53, Try.ntmps53
  go_wp2
  go_quiet ((go_at_call 32; exact Calls.quiet_of_same (isNaN_calls _ _)))
  go_wp2
  go_ret
  exact ⟨by simp [h0, h1, h2, h3], _, rfl⟩

theorem coord3_calls (x y z : Nat) (w : World) :
    Calls Try.prog 54 #[.agg #[.float .f64 x, .float .f64 y, .float .f64 z]] w fun e w' => e = .returned (.slice (some ⟨w.heap.size + 1, 0, none⟩) 3 3) ∧ w' = ((w.alloc (Obj.cells #[Value.float FloatKind.f64 x, Value.float FloatKind.f64 y, Value.float FloatKind.f64 z] 30)).alloc
      (Obj.cells #[Value.float FloatKind.f64 x, Value.float FloatKind.f64 y, Value.float FloatKind.f64 z] 22)) := by
  go_enter Try.func54, Try.ntmps54
  go_wp2
  go_ret
  exact ⟨rfl, rfl⟩


def Row3 (x y z : Nat) (v : Value) (w : World) : Prop := ∃ b, v = .slice (some ⟨b, 0, none⟩) 3 3 ∧ w.cell? ⟨b, 0, none⟩ = some (.float .f64 x) ∧ w.cell? ⟨b, 1, none⟩ = some (.float .f64 y) ∧ w.cell? ⟨b, 2, none⟩ = some (.float .f64 z)
theorem Row3.up {x y z : Nat} (v : Value) : Up (Row3 x y z v) := fun _ _ ⟨b, h0, h1, h2, h3⟩ hg => ⟨b, h0, up_cell h1 hg, up_cell h2 hg, up_cell h3 hg⟩

theorem coord3_row (x y z : Nat) (w : World) :
    Calls Try.prog 54 #[.agg #[.float .f64 x, .float .f64 y, .float .f64 z]] w (EffPost (Row3 x y z) w) := by
  refine (coord3_calls x y z w).mono ?_
  rintro e w' ⟨rfl, rfl⟩
  exact EffPost.mk (((Grow.refl w).alloc _).alloc _) ⟨_, rfl, by go_simp, by go_simp, by go_simp⟩

set_option maxHeartbeats 1000000 in
theorem equal3_calls (x0 x1 x2 y0 y1 y2 : Nat) (w : World) :
    Calls Try.prog 31 #[.agg #[.float .f64 x0, .float .f64 x1, .float .f64 x2], .agg #[.float .f64 y0, .float .f64 y1, .float .f64 y2]] w fun e w' => e = .returned (.bool (eqB x0 x1 x2 y0 y1 y2)) ∧ Grow w w' := by
  go_enter Try.func31, Try.ntmps31
  go_wp2
  refine wp_region_grow (fun i => if i = 1 then some (Row3 x0 x1 x2) else if i = 3 then some (Row3 y0 y1 y2) else if i = 4 then some (fun v _ => v = .bool (eqB x0 x1 x2 y0 y1 y2)) else none) (by kernel_rfl) (by kernel_rfl) ?_ ?_
  · intro i Φ h v
    (repeat' split at h) <;> cases h
    · exact Row3.up v
    · exact Row3.up v
    · exact fun _ _ h _ => h

  repeat (first
    | (refine wpGrow_skip (by rfl) ?_; simp only [Act.put, List.setIfInBounds_toArray, List.set_cons_zero, List.set_cons_succ, Nat.reduceAdd])
    | (refine wpGrow_det' (by rfl) (by rfl) ?_; apply Exists.intro; refine ⟨fun w' hc hh => ?_, ?_⟩; (have hcell := grow_cell hc; clear hc hh; go_simp; rfl); simp only [Act.put, List.setIfInBounds_toArray, List.set_cons_zero, List.set_cons_succ, Nat.reduceAdd])
    | (refine wpGrow_eff' (by rfl) (by rfl) (fun w' hc hh => ?_) (fun v w' hc hh hv => ?_); (clear hc hh; go_simp; go_at_call 54; exact coord3_row _ _ _ _); (obtain ⟨b, rfl, -⟩ := hv; clear hc hh w'; simp only [Act.put, List.setIfInBounds_toArray, List.set_cons_zero, List.set_cons_succ, Nat.reduceAdd])))
  refine wpGrow_eff' (by rfl) (by rfl) (fun w' hc hh => ?_) (fun v w' hc hh hv => ?_)
  · obtain ⟨b1, e1, c0, c1, c2⟩ : Row3 x0 x1 x2 _ w' := hh 1 (anc_of 6 (by kernel_rfl))
    obtain ⟨b2, e2, d0, d1, d2⟩ : Row3 y0 y1 y2 _ w' := hh 3 (anc_of 6 (by kernel_rfl))
    cases e1; cases e2
    clear hc hh
    go_simp
    go_at_call 53
    refine (equals_calls _ _ _ _ x0 x1 x2 y0 y1 y2 _ c0 c1 c2 d0 d1 d2).mono ?_
    rintro e w2 ⟨rfl, n, rfl⟩
    exact EffPost.mk ((Grow.refl _).drewN n) rfl
  obtain rfl := hv
  clear hc hh w'
  simp only [Act.put, List.setIfInBounds_toArray, List.set_cons_zero, List.set_cons_succ, Nat.reduceAdd]
  refine wpGrow_det' (by rfl) (by rfl) ?_; apply Exists.intro; refine ⟨fun w' hc hh => ?_, ?_⟩; (have hcell := grow_cell hc; clear hc hh; go_simp; rfl); simp only [Act.put, List.setIfInBounds_toArray, List.set_cons_zero, List.set_cons_succ, Nat.reduceAdd]
  refine wpGrow_nil fun w1 hg _ => ?_
  go_wp2
  go_ret
  exact ⟨rfl, (((Grow.refl w).alloc _).alloc _).trans hg⟩


set_option maxHeartbeats 1000000 in
theorem law_arm0 (x0 x1 x2 y0 y1 y2 : Nat) (w : World) (h0 : (FloatKind.f64.format.order x0 y0 == some .eq) = false) : Calls Try.prog 10 #[.agg #[.float .f64 x0, .float .f64 x1, .float .f64 x2], .agg #[.float .f64 y0, .float .f64 y1, .float .f64 y2]] w fun e w' => e = .returned (.bool true) ∧ Grow w w' := by
  have he : eqB x0 x1 x2 y0 y1 y2 = false := by unfold eqB; simp [h0]
  go_enter Try.func10, Try.ntmps10
  go_wp2
  refine wp_region_grow (fun i => if i = 2 then some (fun v _ => v = .bool (eqB x0 x1 x2 y0 y1 y2)) else if i = 24 then some (fun v _ => v = .bool (FloatKind.f64.format.order x2 x2 != some .eq)) else if i = 28 then some (fun v _ => v = .bool (FloatKind.f64.format.order y2 y2 != some .eq)) else none) (by kernel_rfl) (by kernel_rfl) ?_ ?_
  · intro i Φ h v
    (repeat' split at h) <;> cases h <;> exact fun _ _ h _ => h
  repeat (first
    | (refine wpGrow_skip (by rfl) ?_; simp only [Act.put, List.setIfInBounds_toArray, List.set_cons_zero, List.set_cons_succ, Nat.reduceAdd])
    | (refine wpGrow_det' (by rfl) (by rfl) ?_; apply Exists.intro; refine ⟨fun w' hc hh => ?_, ?_⟩; (have hcell := grow_cell hc; clear hc hh; go_simp; rfl); simp only [Act.put, List.setIfInBounds_toArray, List.set_cons_zero, List.set_cons_succ, Nat.reduceAdd])
    | (refine wpGrow_eff' (by rfl) (by rfl) (fun w' hc hh => ?_) (fun v w' hc hh hv => ?_); (clear hc hh; go_simp; first
         | (go_at_call 31; refine (equal3_calls _ _ _ _ _ _ _).mono ?_; rintro e w2 ⟨rfl, hg⟩; exact EffPost.mk hg (by first | rfl | rw [he]))
         | (go_at_call 32; refine (isNaN_calls _ _).mono ?_; rintro e w2 ⟨rfl, rfl⟩; exact EffPost.mk (Grow.refl _) (by simp [h0]))); (obtain rfl := hv; clear hc hh w'; simp only [Act.put, List.setIfInBounds_toArray, List.set_cons_zero, List.set_cons_succ, Nat.reduceAdd, he, h0])))
  refine wpGrow_nil ?_
  intro w1 hg _
  go_wp2
  go_ret
  exact ⟨rfl, (((Grow.refl w).alloc _).alloc _).trans hg⟩
set_option maxHeartbeats 1000000 in
theorem law_arm1 (x0 x1 x2 y0 y1 y2 : Nat) (w : World) (h0 : (FloatKind.f64.format.order x0 y0 == some .eq) = true) (h1 : (FloatKind.f64.format.order x1 y1 == some .eq) = false) : Calls Try.prog 10 #[.agg #[.float .f64 x0, .float .f64 x1, .float .f64 x2], .agg #[.float .f64 y0, .float .f64 y1, .float .f64 y2]] w fun e w' => e = .returned (.bool true) ∧ Grow w w' := by
  have he : eqB x0 x1 x2 y0 y1 y2 = false := by unfold eqB; simp [h0, h1]
  go_enter Try.func10, Try.ntmps10
  go_wp2
  refine wp_region_grow (fun i => if i = 2 then some (fun v _ => v = .bool (eqB x0 x1 x2 y0 y1 y2)) else if i = 24 then some (fun v _ => v = .bool (FloatKind.f64.format.order x2 x2 != some .eq)) else if i = 28 then some (fun v _ => v = .bool (FloatKind.f64.format.order y2 y2 != some .eq)) else none) (by kernel_rfl) (by kernel_rfl) ?_ ?_
  · intro i Φ h v
    (repeat' split at h) <;> cases h <;> exact fun _ _ h _ => h
  repeat (first
    | (refine wpGrow_skip (by rfl) ?_; simp only [Act.put, List.setIfInBounds_toArray, List.set_cons_zero, List.set_cons_succ, Nat.reduceAdd])
    | (refine wpGrow_det' (by rfl) (by rfl) ?_; apply Exists.intro; refine ⟨fun w' hc hh => ?_, ?_⟩; (have hcell := grow_cell hc; clear hc hh; go_simp; rfl); simp only [Act.put, List.setIfInBounds_toArray, List.set_cons_zero, List.set_cons_succ, Nat.reduceAdd])
    | (refine wpGrow_eff' (by rfl) (by rfl) (fun w' hc hh => ?_) (fun v w' hc hh hv => ?_); (clear hc hh; go_simp; first
         | (go_at_call 31; refine (equal3_calls _ _ _ _ _ _ _).mono ?_; rintro e w2 ⟨rfl, hg⟩; exact EffPost.mk hg (by first | rfl | rw [he]))
         | (go_at_call 32; refine (isNaN_calls _ _).mono ?_; rintro e w2 ⟨rfl, rfl⟩; exact EffPost.mk (Grow.refl _) (by simp [h0, h1]))); (obtain rfl := hv; clear hc hh w'; simp only [Act.put, List.setIfInBounds_toArray, List.set_cons_zero, List.set_cons_succ, Nat.reduceAdd, he, h0, h1])))
  refine wpGrow_nil ?_
  intro w1 hg _
  go_wp2
  go_ret
  exact ⟨rfl, (((Grow.refl w).alloc _).alloc _).trans hg⟩
set_option maxHeartbeats 1000000 in
theorem law_arm2 (x0 x1 x2 y0 y1 y2 : Nat) (w : World) (h0 : (FloatKind.f64.format.order x0 y0 == some .eq) = true) (h1 : (FloatKind.f64.format.order x1 y1 == some .eq) = true) (h2 : (FloatKind.f64.format.order x2 y2 == some .eq) = true) : Calls Try.prog 10 #[.agg #[.float .f64 x0, .float .f64 x1, .float .f64 x2], .agg #[.float .f64 y0, .float .f64 y1, .float .f64 y2]] w fun e w' => e = .returned (.bool true) ∧ Grow w w' := by
  have he : eqB x0 x1 x2 y0 y1 y2 = true := by unfold eqB; simp [h0, h1, h2]
  go_enter Try.func10, Try.ntmps10
  go_wp2
  refine wp_region_grow (fun i => if i = 2 then some (fun v _ => v = .bool (eqB x0 x1 x2 y0 y1 y2)) else if i = 24 then some (fun v _ => v = .bool (FloatKind.f64.format.order x2 x2 != some .eq)) else if i = 28 then some (fun v _ => v = .bool (FloatKind.f64.format.order y2 y2 != some .eq)) else none) (by kernel_rfl) (by kernel_rfl) ?_ ?_
  · intro i Φ h v
    (repeat' split at h) <;> cases h <;> exact fun _ _ h _ => h
  repeat (first
    | (refine wpGrow_skip (by rfl) ?_; simp only [Act.put, List.setIfInBounds_toArray, List.set_cons_zero, List.set_cons_succ, Nat.reduceAdd])
    | (refine wpGrow_det' (by rfl) (by rfl) ?_; apply Exists.intro; refine ⟨fun w' hc hh => ?_, ?_⟩; (have hcell := grow_cell hc; clear hc hh; go_simp; rfl); simp only [Act.put, List.setIfInBounds_toArray, List.set_cons_zero, List.set_cons_succ, Nat.reduceAdd])
    | (refine wpGrow_eff' (by rfl) (by rfl) (fun w' hc hh => ?_) (fun v w' hc hh hv => ?_); (clear hc hh; go_simp; first
         | (go_at_call 31; refine (equal3_calls _ _ _ _ _ _ _).mono ?_; rintro e w2 ⟨rfl, hg⟩; exact EffPost.mk hg (by first | rfl | rw [he]))
         | (go_at_call 32; refine (isNaN_calls _ _).mono ?_; rintro e w2 ⟨rfl, rfl⟩; exact EffPost.mk (Grow.refl _) (by simp [h0, h1, h2]))); (obtain rfl := hv; clear hc hh w'; simp only [Act.put, List.setIfInBounds_toArray, List.set_cons_zero, List.set_cons_succ, Nat.reduceAdd, he, h0, h1, h2])))
  refine wpGrow_nil ?_
  intro w1 hg _
  go_wp2
  go_ret
  exact ⟨rfl, (((Grow.refl w).alloc _).alloc _).trans hg⟩
set_option maxHeartbeats 1000000 in
theorem law_arm3 (x0 x1 x2 y0 y1 y2 : Nat) (w : World) (h0 : (FloatKind.f64.format.order x0 y0 == some .eq) = true) (h1 : (FloatKind.f64.format.order x1 y1 == some .eq) = true) (h2 : (FloatKind.f64.format.order x2 y2 == some .eq) = false) (h3 : (FloatKind.f64.format.order x2 x2 != some .eq) = false) : Calls Try.prog 10 #[.agg #[.float .f64 x0, .float .f64 x1, .float .f64 x2], .agg #[.float .f64 y0, .float .f64 y1, .float .f64 y2]] w fun e w' => e = .returned (.bool true) ∧ Grow w w' := by
  have he : eqB x0 x1 x2 y0 y1 y2 = false := by unfold eqB; simp [h0, h1, h2, h3]
  go_enter Try.func10, Try.ntmps10
  go_wp2
  refine wp_region_grow (fun i => if i = 2 then some (fun v _ => v = .bool (eqB x0 x1 x2 y0 y1 y2)) else if i = 24 then some (fun v _ => v = .bool (FloatKind.f64.format.order x2 x2 != some .eq)) else if i = 28 then some (fun v _ => v = .bool (FloatKind.f64.format.order y2 y2 != some .eq)) else none) (by kernel_rfl) (by kernel_rfl) ?_ ?_
  · intro i Φ h v
    (repeat' split at h) <;> cases h <;> exact fun _ _ h _ => h
  repeat (first
    | (refine wpGrow_skip (by rfl) ?_; simp only [Act.put, List.setIfInBounds_toArray, List.set_cons_zero, List.set_cons_succ, Nat.reduceAdd])
    | (refine wpGrow_det' (by rfl) (by rfl) ?_; apply Exists.intro; refine ⟨fun w' hc hh => ?_, ?_⟩; (have hcell := grow_cell hc; clear hc hh; go_simp; rfl); simp only [Act.put, List.setIfInBounds_toArray, List.set_cons_zero, List.set_cons_succ, Nat.reduceAdd])
    | (refine wpGrow_eff' (by rfl) (by rfl) (fun w' hc hh => ?_) (fun v w' hc hh hv => ?_); (clear hc hh; go_simp; first
         | (go_at_call 31; refine (equal3_calls _ _ _ _ _ _ _).mono ?_; rintro e w2 ⟨rfl, hg⟩; exact EffPost.mk hg (by first | rfl | rw [he]))
         | (go_at_call 32; refine (isNaN_calls _ _).mono ?_; rintro e w2 ⟨rfl, rfl⟩; exact EffPost.mk (Grow.refl _) (by simp [h0, h1, h2, h3]))); (obtain rfl := hv; clear hc hh w'; simp only [Act.put, List.setIfInBounds_toArray, List.set_cons_zero, List.set_cons_succ, Nat.reduceAdd, he, h0, h1, h2, h3])))
  refine wpGrow_nil ?_
  intro w1 hg _
  go_wp2
  go_ret
  exact ⟨rfl, (((Grow.refl w).alloc _).alloc _).trans hg⟩
set_option maxHeartbeats 1000000 in
theorem law_arm4 (x0 x1 x2 y0 y1 y2 : Nat) (w : World) (h0 : (FloatKind.f64.format.order x0 y0 == some .eq) = true) (h1 : (FloatKind.f64.format.order x1 y1 == some .eq) = true) (h2 : (FloatKind.f64.format.order x2 y2 == some .eq) = false) (h3 : (FloatKind.f64.format.order x2 x2 != some .eq) = true) (h4 : (FloatKind.f64.format.order y2 y2 != some .eq) = false) : Calls Try.prog 10 #[.agg #[.float .f64 x0, .float .f64 x1, .float .f64 x2], .agg #[.float .f64 y0, .float .f64 y1, .float .f64 y2]] w fun e w' => e = .returned (.bool true) ∧ Grow w w' := by
  have he : eqB x0 x1 x2 y0 y1 y2 = false := by unfold eqB; simp [h0, h1, h2, h3, h4]
  go_enter Try.func10, Try.ntmps10
  go_wp2
  refine wp_region_grow (fun i => if i = 2 then some (fun v _ => v = .bool (eqB x0 x1 x2 y0 y1 y2)) else if i = 24 then some (fun v _ => v = .bool (FloatKind.f64.format.order x2 x2 != some .eq)) else if i = 28 then some (fun v _ => v = .bool (FloatKind.f64.format.order y2 y2 != some .eq)) else none) (by kernel_rfl) (by kernel_rfl) ?_ ?_
  · intro i Φ h v
    (repeat' split at h) <;> cases h <;> exact fun _ _ h _ => h
  repeat (first
    | (refine wpGrow_skip (by rfl) ?_; simp only [Act.put, List.setIfInBounds_toArray, List.set_cons_zero, List.set_cons_succ, Nat.reduceAdd])
    | (refine wpGrow_det' (by rfl) (by rfl) ?_; apply Exists.intro; refine ⟨fun w' hc hh => ?_, ?_⟩; (have hcell := grow_cell hc; clear hc hh; go_simp; rfl); simp only [Act.put, List.setIfInBounds_toArray, List.set_cons_zero, List.set_cons_succ, Nat.reduceAdd])
    | (refine wpGrow_eff' (by rfl) (by rfl) (fun w' hc hh => ?_) (fun v w' hc hh hv => ?_); (clear hc hh; go_simp; first
         | (go_at_call 31; refine (equal3_calls _ _ _ _ _ _ _).mono ?_; rintro e w2 ⟨rfl, hg⟩; exact EffPost.mk hg (by first | rfl | rw [he]))
         | (go_at_call 32; refine (isNaN_calls _ _).mono ?_; rintro e w2 ⟨rfl, rfl⟩; exact EffPost.mk (Grow.refl _) (by simp [h0, h1, h2, h3, h4]))); (obtain rfl := hv; clear hc hh w'; simp only [Act.put, List.setIfInBounds_toArray, List.set_cons_zero, List.set_cons_succ, Nat.reduceAdd, he, h0, h1, h2, h3, h4])))
  refine wpGrow_nil ?_
  intro w1 hg _
  go_wp2
  go_ret
  exact ⟨rfl, (((Grow.refl w).alloc _).alloc _).trans hg⟩
set_option maxHeartbeats 1000000 in
theorem law_arm5 (x0 x1 x2 y0 y1 y2 : Nat) (w : World) (h0 : (FloatKind.f64.format.order x0 y0 == some .eq) = true) (h1 : (FloatKind.f64.format.order x1 y1 == some .eq) = true) (h2 : (FloatKind.f64.format.order x2 y2 == some .eq) = false) (h3 : (FloatKind.f64.format.order x2 x2 != some .eq) = true) (h4 : (FloatKind.f64.format.order y2 y2 != some .eq) = true) : Calls Try.prog 10 #[.agg #[.float .f64 x0, .float .f64 x1, .float .f64 x2], .agg #[.float .f64 y0, .float .f64 y1, .float .f64 y2]] w fun e w' => e = .returned (.bool true) ∧ Grow w w' := by
  have he : eqB x0 x1 x2 y0 y1 y2 = true := by unfold eqB; simp [h0, h1, h2, h3, h4]
  go_enter Try.func10, Try.ntmps10
  go_wp2
  refine wp_region_grow (fun i => if i = 2 then some (fun v _ => v = .bool (eqB x0 x1 x2 y0 y1 y2)) else if i = 24 then some (fun v _ => v = .bool (FloatKind.f64.format.order x2 x2 != some .eq)) else if i = 28 then some (fun v _ => v = .bool (FloatKind.f64.format.order y2 y2 != some .eq)) else none) (by kernel_rfl) (by kernel_rfl) ?_ ?_
  · intro i Φ h v
    (repeat' split at h) <;> cases h <;> exact fun _ _ h _ => h
  repeat (first
    | (refine wpGrow_skip (by rfl) ?_; simp only [Act.put, List.setIfInBounds_toArray, List.set_cons_zero, List.set_cons_succ, Nat.reduceAdd])
    | (refine wpGrow_det' (by rfl) (by rfl) ?_; apply Exists.intro; refine ⟨fun w' hc hh => ?_, ?_⟩; (have hcell := grow_cell hc; clear hc hh; go_simp; rfl); simp only [Act.put, List.setIfInBounds_toArray, List.set_cons_zero, List.set_cons_succ, Nat.reduceAdd])
    | (refine wpGrow_eff' (by rfl) (by rfl) (fun w' hc hh => ?_) (fun v w' hc hh hv => ?_); (clear hc hh; go_simp; first
         | (go_at_call 31; refine (equal3_calls _ _ _ _ _ _ _).mono ?_; rintro e w2 ⟨rfl, hg⟩; exact EffPost.mk hg (by first | rfl | rw [he]))
         | (go_at_call 32; refine (isNaN_calls _ _).mono ?_; rintro e w2 ⟨rfl, rfl⟩; exact EffPost.mk (Grow.refl _) (by simp [h0, h1, h2, h3, h4]))); (obtain rfl := hv; clear hc hh w'; simp only [Act.put, List.setIfInBounds_toArray, List.set_cons_zero, List.set_cons_succ, Nat.reduceAdd, he, h0, h1, h2, h3, h4])))
  refine wpGrow_nil ?_
  intro w1 hg _
  go_wp2
  go_ret
  exact ⟨rfl, (((Grow.refl w).alloc _).alloc _).trans hg⟩

theorem bcases {p : Prop} (b : Bool) (h1 : b = true → p) (h2 : b = false → p) : p := by cases b; exact h2 rfl; exact h1 rfl
theorem law_calls (x0 x1 x2 y0 y1 y2 : Nat) (w : World) : Calls Try.prog 10 #[.agg #[.float .f64 x0, .float .f64 x1, .float .f64 x2], .agg #[.float .f64 y0, .float .f64 y1, .float .f64 y2]] w fun e w' => e = .returned (.bool true) ∧ Grow w w' :=
  bcases _ (fun h0 => bcases _ (fun h1 => bcases _ (fun h2 => law_arm2 _ _ _ _ _ _ w h0 h1 h2) (fun h2 => bcases _ (fun h3 => bcases _ (fun h4 => law_arm5 _ _ _ _ _ _ w h0 h1 h2 h3 h4) (fun h4 => law_arm4 _ _ _ _ _ _ w h0 h1 h2 h3 h4)) (fun h3 => law_arm3 _ _ _ _ _ _ w h0 h1 h2 h3))) (fun h1 => law_arm1 _ _ _ _ _ _ w h0 h1)) (fun h0 => law_arm0 _ _ _ _ _ _ w h0)
end Go.Proofs.Ytincapjbhbmeiaa
