import Derived.Test.YtpnmcmpeecpjeaaDoorMatF
namespace Go.Proofs.YtpnmcmpeecpjeaaDoor
open Go.ChangeShapes Go.WideShapes Go.ChangeAt Go.RowKit Go.GrowR
set_option linter.unusedVariables false
set_option linter.unusedSimpArgs false

/-- the products of a row and a vector, their sums of two and of three -/
def VecF (A x p : Nat → Nat) (q : Nat → Nat → Nat) (t : Nat → Nat) : Prop :=
  (∀ i j, i < 3 → j < 3 → floatBits .mul .f64 (x j) (A (3 * i + j)) = some (q i j)) ∧ (∀ i, i < 3 → floatBits .add .f64 (q i 0) (q i 1) = some (t i)) ∧ (∀ i, i < 3 → floatBits .add .f64 (t i) (q i 2) = some (p i))
abbrev V3 (x : Nat → Nat) : Value := P3V (x 0) (x 1) (x 2)
def MvP (p : Nat → Nat) (w : World) (e : Ending) (w' : World) : Prop := e = .returned (V3 p) ∧ Grow w w'
theorem plainP3_calls (x : Nat → Nat) (w : World) : Calls Tryd.prog 22 #[V3 x] w (MvP x w) := by
  go_enter Tryd.func22, Tryd.ntmps22
  go_wp2
  refine bodyPost_ret (v := V3 x) (by simp [results, Tryd.results22, go_sem]) rfl ⟨rfl, ?_⟩
  exact ((Grow.refl _).alloc _).alloc _
set_option maxRecDepth 100000 in
set_option maxHeartbeats 8000000 in
theorem mulVec_calls (pa da : Nat) (A x p : Nat → Nat) (q : Nat → Nat → Nat) (t : Nat → Nat) (w : World) (ha : MR pa da A w) (hF : VecF A x p q t) : Calls Tryd.prog 23 #[.pointer (some ⟨pa, 0, none⟩), V3 x] w (MvP p w) := by
  have g00 : ∀ (t : TypeId) (w : World), (binOp .mul t (.float .f64 (x 0)) (.float .f64 (A 0))).run Tryd.prog w = .ok (.float .f64 (q 0 0)) w := fop (hF.1 0 0 (by decide) (by decide))
  have g01 : ∀ (t : TypeId) (w : World), (binOp .mul t (.float .f64 (x 1)) (.float .f64 (A 1))).run Tryd.prog w = .ok (.float .f64 (q 0 1)) w := fop (hF.1 0 1 (by decide) (by decide))
  have g02 : ∀ (t : TypeId) (w : World), (binOp .mul t (.float .f64 (x 2)) (.float .f64 (A 2))).run Tryd.prog w = .ok (.float .f64 (q 0 2)) w := fop (hF.1 0 2 (by decide) (by decide))
  have s0 := fop (P := Tryd.prog) (hF.2.1 0 (by decide))
  have r0 := fop (P := Tryd.prog) (hF.2.2 0 (by decide))
  have g10 : ∀ (t : TypeId) (w : World), (binOp .mul t (.float .f64 (x 0)) (.float .f64 (A 3))).run Tryd.prog w = .ok (.float .f64 (q 1 0)) w := fop (hF.1 1 0 (by decide) (by decide))
  have g11 : ∀ (t : TypeId) (w : World), (binOp .mul t (.float .f64 (x 1)) (.float .f64 (A 4))).run Tryd.prog w = .ok (.float .f64 (q 1 1)) w := fop (hF.1 1 1 (by decide) (by decide))
  have g12 : ∀ (t : TypeId) (w : World), (binOp .mul t (.float .f64 (x 2)) (.float .f64 (A 5))).run Tryd.prog w = .ok (.float .f64 (q 1 2)) w := fop (hF.1 1 2 (by decide) (by decide))
  have s1 := fop (P := Tryd.prog) (hF.2.1 1 (by decide))
  have r1 := fop (P := Tryd.prog) (hF.2.2 1 (by decide))
  have g20 : ∀ (t : TypeId) (w : World), (binOp .mul t (.float .f64 (x 0)) (.float .f64 (A 6))).run Tryd.prog w = .ok (.float .f64 (q 2 0)) w := fop (hF.1 2 0 (by decide) (by decide))
  have g21 : ∀ (t : TypeId) (w : World), (binOp .mul t (.float .f64 (x 1)) (.float .f64 (A 7))).run Tryd.prog w = .ok (.float .f64 (q 2 1)) w := fop (hF.1 2 1 (by decide) (by decide))
  have g22 : ∀ (t : TypeId) (w : World), (binOp .mul t (.float .f64 (x 2)) (.float .f64 (A 8))).run Tryd.prog w = .ok (.float .f64 (q 2 2)) w := fop (hF.1 2 2 (by decide) (by decide))
  have s2 := fop (P := Tryd.prog) (hF.2.1 2 (by decide))
  have r2 := fop (P := Tryd.prog) (hF.2.2 2 (by decide))
  clear hF
  have HA := Lib.hid ha
  have c0 := ha.1
  have lt0 := cell_lt c0
  dsimp only at lt0
  clear ha
  have hne : ¬ pa = w.heap.size := by omega
  go_enter Tryd.func23, Tryd.ntmps23
  go_wp2
  refine wp_region_grow_tail 52 (fun i => if i = 3 then some (fun _ _ => (fun V _ => V = .float .f64 (A 0))) else if i = 8 then some (fun _ _ => (fun V _ => V = .float .f64 (A 1))) else if i = 14 then some (fun _ _ => (fun V _ => V = .float .f64 (A 2))) else if i = 20 then some (fun _ _ => (fun V _ => V = .float .f64 (A 3))) else if i = 25 then some (fun _ _ => (fun V _ => V = .float .f64 (A 4))) else if i = 31 then some (fun _ _ => (fun V _ => V = .float .f64 (A 5))) else if i = 37 then some (fun _ _ => (fun V _ => V = .float .f64 (A 6))) else if i = 42 then some (fun _ _ => (fun V _ => V = .float .f64 (A 7))) else if i = 48 then some (fun _ _ => (fun V _ => V = .float .f64 (A 8))) else none) (by kernel_rfl) (by kernel_rfl) ?_ ?_
  · intro i Φ h lo hi v
    (repeat' split at h) <;> cases h
    · exact fun _ _ h _ => h
    · exact fun _ _ h _ => h
    · exact fun _ _ h _ => h
    · exact fun _ _ h _ => h
    · exact fun _ _ h _ => h
    · exact fun _ _ h _ => h
    · exact fun _ _ h _ => h
    · exact fun _ _ h _ => h
    · exact fun _ _ h _ => h
  simp only [List.take_succ_cons, List.take_zero, List.drop_succ_cons, List.drop_zero]
  repeat (first
    | (refine wpGrow_skip (by rfl) ?_; simp only [Act.put, List.setIfInBounds_toArray, List.set_cons_zero, List.set_cons_succ, Nat.reduceAdd])
    | (refine wpGrow_det' (by rfl) (by rfl) ?_; apply Exists.intro; refine ⟨fun w' hc hh => ?_, ?_⟩; (have hcell := grow_cell hc; clear hc hh; go_simp; rfl); simp only [Act.put, List.setIfInBounds_toArray, List.set_cons_zero, List.set_cons_succ, Nat.reduceAdd]))
  refine wpGrow_eff' (by rfl) (by rfl) (fun w' hc hh => ?_) (fun v lo hi w' hap hc hh hv => ?_)
  · have HAw := Lib.hid (MR.up _ _ HA.out ((((Grow.refl _).alloc _).alloc _).trans hc))
    clear hc hh
    go_simp
    go_at_call 26
    refine (show Calls Tryd.prog 26 #[.pointer (some ⟨pa, 0, none⟩), .int .i64 0, .int .i64 0] w' (AtP (A 0) w') from atR_calls pa da 0 0 A w' HAw.out (by decide) (by decide)).mono ?_
    rintro e w2 ⟨rfl, rfl⟩
    exact EffPost.mk (Grow.refl _) rfl
  subst hv
  clear hc hh hap w'
  simp only [Act.put, List.setIfInBounds_toArray, List.set_cons_zero, List.set_cons_succ, Nat.reduceAdd]
  repeat (first
    | (refine wpGrow_skip (by rfl) ?_; simp only [Act.put, List.setIfInBounds_toArray, List.set_cons_zero, List.set_cons_succ, Nat.reduceAdd])
    | (refine wpGrow_det' (by rfl) (by rfl) ?_; apply Exists.intro; refine ⟨fun w' hc hh => ?_, ?_⟩; (have hcell := grow_cell hc; clear hc hh; go_simp; rfl); simp only [Act.put, List.setIfInBounds_toArray, List.set_cons_zero, List.set_cons_succ, Nat.reduceAdd]))
  refine wpGrow_eff' (by rfl) (by rfl) (fun w' hc hh => ?_) (fun v lo hi w' hap hc hh hv => ?_)
  · have HAw := Lib.hid (MR.up _ _ HA.out ((((Grow.refl _).alloc _).alloc _).trans hc))
    clear hc hh
    go_simp
    go_at_call 26
    refine (show Calls Tryd.prog 26 #[.pointer (some ⟨pa, 0, none⟩), .int .i64 0, .int .i64 1] w' (AtP (A 1) w') from atR_calls pa da 0 1 A w' HAw.out (by decide) (by decide)).mono ?_
    rintro e w2 ⟨rfl, rfl⟩
    exact EffPost.mk (Grow.refl _) rfl
  subst hv
  clear hc hh hap w'
  simp only [Act.put, List.setIfInBounds_toArray, List.set_cons_zero, List.set_cons_succ, Nat.reduceAdd]
  repeat (first
    | (refine wpGrow_skip (by rfl) ?_; simp only [Act.put, List.setIfInBounds_toArray, List.set_cons_zero, List.set_cons_succ, Nat.reduceAdd])
    | (refine wpGrow_det' (by rfl) (by rfl) ?_; apply Exists.intro; refine ⟨fun w' hc hh => ?_, ?_⟩; (have hcell := grow_cell hc; clear hc hh; go_simp; rfl); simp only [Act.put, List.setIfInBounds_toArray, List.set_cons_zero, List.set_cons_succ, Nat.reduceAdd]))
  refine wpGrow_eff' (by rfl) (by rfl) (fun w' hc hh => ?_) (fun v lo hi w' hap hc hh hv => ?_)
  · have HAw := Lib.hid (MR.up _ _ HA.out ((((Grow.refl _).alloc _).alloc _).trans hc))
    clear hc hh
    go_simp
    go_at_call 26
    refine (show Calls Tryd.prog 26 #[.pointer (some ⟨pa, 0, none⟩), .int .i64 0, .int .i64 2] w' (AtP (A 2) w') from atR_calls pa da 0 2 A w' HAw.out (by decide) (by decide)).mono ?_
    rintro e w2 ⟨rfl, rfl⟩
    exact EffPost.mk (Grow.refl _) rfl
  subst hv
  clear hc hh hap w'
  simp only [Act.put, List.setIfInBounds_toArray, List.set_cons_zero, List.set_cons_succ, Nat.reduceAdd]
  repeat (first
    | (refine wpGrow_skip (by rfl) ?_; simp only [Act.put, List.setIfInBounds_toArray, List.set_cons_zero, List.set_cons_succ, Nat.reduceAdd])
    | (refine wpGrow_det' (by rfl) (by rfl) ?_; apply Exists.intro; refine ⟨fun w' hc hh => ?_, ?_⟩; (have hcell := grow_cell hc; clear hc hh; go_simp; rfl); simp only [Act.put, List.setIfInBounds_toArray, List.set_cons_zero, List.set_cons_succ, Nat.reduceAdd]))
  refine wpGrow_eff' (by rfl) (by rfl) (fun w' hc hh => ?_) (fun v lo hi w' hap hc hh hv => ?_)
  · have HAw := Lib.hid (MR.up _ _ HA.out ((((Grow.refl _).alloc _).alloc _).trans hc))
    clear hc hh
    go_simp
    go_at_call 26
    refine (show Calls Tryd.prog 26 #[.pointer (some ⟨pa, 0, none⟩), .int .i64 1, .int .i64 0] w' (AtP (A 3) w') from atR_calls pa da 1 0 A w' HAw.out (by decide) (by decide)).mono ?_
    rintro e w2 ⟨rfl, rfl⟩
    exact EffPost.mk (Grow.refl _) rfl
  subst hv
  clear hc hh hap w'
  simp only [Act.put, List.setIfInBounds_toArray, List.set_cons_zero, List.set_cons_succ, Nat.reduceAdd]
  repeat (first
    | (refine wpGrow_skip (by rfl) ?_; simp only [Act.put, List.setIfInBounds_toArray, List.set_cons_zero, List.set_cons_succ, Nat.reduceAdd])
    | (refine wpGrow_det' (by rfl) (by rfl) ?_; apply Exists.intro; refine ⟨fun w' hc hh => ?_, ?_⟩; (have hcell := grow_cell hc; clear hc hh; go_simp; rfl); simp only [Act.put, List.setIfInBounds_toArray, List.set_cons_zero, List.set_cons_succ, Nat.reduceAdd]))
  refine wpGrow_eff' (by rfl) (by rfl) (fun w' hc hh => ?_) (fun v lo hi w' hap hc hh hv => ?_)
  · have HAw := Lib.hid (MR.up _ _ HA.out ((((Grow.refl _).alloc _).alloc _).trans hc))
    clear hc hh
    go_simp
    go_at_call 26
    refine (show Calls Tryd.prog 26 #[.pointer (some ⟨pa, 0, none⟩), .int .i64 1, .int .i64 1] w' (AtP (A 4) w') from atR_calls pa da 1 1 A w' HAw.out (by decide) (by decide)).mono ?_
    rintro e w2 ⟨rfl, rfl⟩
    exact EffPost.mk (Grow.refl _) rfl
  subst hv
  clear hc hh hap w'
  simp only [Act.put, List.setIfInBounds_toArray, List.set_cons_zero, List.set_cons_succ, Nat.reduceAdd]
  repeat (first
    | (refine wpGrow_skip (by rfl) ?_; simp only [Act.put, List.setIfInBounds_toArray, List.set_cons_zero, List.set_cons_succ, Nat.reduceAdd])
    | (refine wpGrow_det' (by rfl) (by rfl) ?_; apply Exists.intro; refine ⟨fun w' hc hh => ?_, ?_⟩; (have hcell := grow_cell hc; clear hc hh; go_simp; rfl); simp only [Act.put, List.setIfInBounds_toArray, List.set_cons_zero, List.set_cons_succ, Nat.reduceAdd]))
  refine wpGrow_eff' (by rfl) (by rfl) (fun w' hc hh => ?_) (fun v lo hi w' hap hc hh hv => ?_)
  · have HAw := Lib.hid (MR.up _ _ HA.out ((((Grow.refl _).alloc _).alloc _).trans hc))
    clear hc hh
    go_simp
    go_at_call 26
    refine (show Calls Tryd.prog 26 #[.pointer (some ⟨pa, 0, none⟩), .int .i64 1, .int .i64 2] w' (AtP (A 5) w') from atR_calls pa da 1 2 A w' HAw.out (by decide) (by decide)).mono ?_
    rintro e w2 ⟨rfl, rfl⟩
    exact EffPost.mk (Grow.refl _) rfl
  subst hv
  clear hc hh hap w'
  simp only [Act.put, List.setIfInBounds_toArray, List.set_cons_zero, List.set_cons_succ, Nat.reduceAdd]
  repeat (first
    | (refine wpGrow_skip (by rfl) ?_; simp only [Act.put, List.setIfInBounds_toArray, List.set_cons_zero, List.set_cons_succ, Nat.reduceAdd])
    | (refine wpGrow_det' (by rfl) (by rfl) ?_; apply Exists.intro; refine ⟨fun w' hc hh => ?_, ?_⟩; (have hcell := grow_cell hc; clear hc hh; go_simp; rfl); simp only [Act.put, List.setIfInBounds_toArray, List.set_cons_zero, List.set_cons_succ, Nat.reduceAdd]))
  refine wpGrow_eff' (by rfl) (by rfl) (fun w' hc hh => ?_) (fun v lo hi w' hap hc hh hv => ?_)
  · have HAw := Lib.hid (MR.up _ _ HA.out ((((Grow.refl _).alloc _).alloc _).trans hc))
    clear hc hh
    go_simp
    go_at_call 26
    refine (show Calls Tryd.prog 26 #[.pointer (some ⟨pa, 0, none⟩), .int .i64 2, .int .i64 0] w' (AtP (A 6) w') from atR_calls pa da 2 0 A w' HAw.out (by decide) (by decide)).mono ?_
    rintro e w2 ⟨rfl, rfl⟩
    exact EffPost.mk (Grow.refl _) rfl
  subst hv
  clear hc hh hap w'
  simp only [Act.put, List.setIfInBounds_toArray, List.set_cons_zero, List.set_cons_succ, Nat.reduceAdd]
  repeat (first
    | (refine wpGrow_skip (by rfl) ?_; simp only [Act.put, List.setIfInBounds_toArray, List.set_cons_zero, List.set_cons_succ, Nat.reduceAdd])
    | (refine wpGrow_det' (by rfl) (by rfl) ?_; apply Exists.intro; refine ⟨fun w' hc hh => ?_, ?_⟩; (have hcell := grow_cell hc; clear hc hh; go_simp; rfl); simp only [Act.put, List.setIfInBounds_toArray, List.set_cons_zero, List.set_cons_succ, Nat.reduceAdd]))
  refine wpGrow_eff' (by rfl) (by rfl) (fun w' hc hh => ?_) (fun v lo hi w' hap hc hh hv => ?_)
  · have HAw := Lib.hid (MR.up _ _ HA.out ((((Grow.refl _).alloc _).alloc _).trans hc))
    clear hc hh
    go_simp
    go_at_call 26
    refine (show Calls Tryd.prog 26 #[.pointer (some ⟨pa, 0, none⟩), .int .i64 2, .int .i64 1] w' (AtP (A 7) w') from atR_calls pa da 2 1 A w' HAw.out (by decide) (by decide)).mono ?_
    rintro e w2 ⟨rfl, rfl⟩
    exact EffPost.mk (Grow.refl _) rfl
  subst hv
  clear hc hh hap w'
  simp only [Act.put, List.setIfInBounds_toArray, List.set_cons_zero, List.set_cons_succ, Nat.reduceAdd]
  repeat (first
    | (refine wpGrow_skip (by rfl) ?_; simp only [Act.put, List.setIfInBounds_toArray, List.set_cons_zero, List.set_cons_succ, Nat.reduceAdd])
    | (refine wpGrow_det' (by rfl) (by rfl) ?_; apply Exists.intro; refine ⟨fun w' hc hh => ?_, ?_⟩; (have hcell := grow_cell hc; clear hc hh; go_simp; rfl); simp only [Act.put, List.setIfInBounds_toArray, List.set_cons_zero, List.set_cons_succ, Nat.reduceAdd]))
  refine wpGrow_eff' (by rfl) (by rfl) (fun w' hc hh => ?_) (fun v lo hi w' hap hc hh hv => ?_)
  · have HAw := Lib.hid (MR.up _ _ HA.out ((((Grow.refl _).alloc _).alloc _).trans hc))
    clear hc hh
    go_simp
    go_at_call 26
    refine (show Calls Tryd.prog 26 #[.pointer (some ⟨pa, 0, none⟩), .int .i64 2, .int .i64 2] w' (AtP (A 8) w') from atR_calls pa da 2 2 A w' HAw.out (by decide) (by decide)).mono ?_
    rintro e w2 ⟨rfl, rfl⟩
    exact EffPost.mk (Grow.refl _) rfl
  subst hv
  clear hc hh hap w'
  simp only [Act.put, List.setIfInBounds_toArray, List.set_cons_zero, List.set_cons_succ, Nat.reduceAdd]
  repeat (first
    | (refine wpGrow_skip (by rfl) ?_; simp only [Act.put, List.setIfInBounds_toArray, List.set_cons_zero, List.set_cons_succ, Nat.reduceAdd])
    | (refine wpGrow_det' (by rfl) (by rfl) ?_; apply Exists.intro; refine ⟨fun w' hc hh => ?_, ?_⟩; (have hcell := grow_cell hc; clear hc hh; go_simp; rfl); simp only [Act.put, List.setIfInBounds_toArray, List.set_cons_zero, List.set_cons_succ, Nat.reduceAdd]))
  refine wpGrow_nil ?_
  intro w1 hg hh
  have HG := Lib.hid ((((Grow.refl w).alloc _).alloc _).trans hg)
  have z0 : w1.cell? ⟨w.heap.size + 1, 0, none⟩ = some (.float .f64 0) := up_cell (by go_simp) hg
  have z1 : w1.cell? ⟨w.heap.size + 1, 1, none⟩ = some (.float .f64 0) := up_cell (by go_simp) hg
  have z2 : w1.cell? ⟨w.heap.size + 1, 2, none⟩ = some (.float .f64 0) := up_cell (by go_simp) hg
  have fz : ∀ o, w1.frozen? ⟨w.heap.size + 1, o, none⟩ = false := fun o => (grow_frozen hg _ _ (by simp)).trans (by go_simp)
  clear hh hg
  go_wp2
  refine bodyPost_ret (v := V3 p) (by simp [results, Tryd.results23, go_sem]; try go_simp) rfl ⟨rfl, ?_⟩
  exact ((HG.out.setCell (by simp) _).setCell (by simp) _).setCell (by simp) _
end Go.Proofs.YtpnmcmpeecpjeaaDoor
