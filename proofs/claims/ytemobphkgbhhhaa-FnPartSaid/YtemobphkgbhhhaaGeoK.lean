import Derived.Test.YtemobphkgbhhhaaLayS
import Derived.Test.YtemobphkgbhhhaaGoodAll
import Derived.Test.YtemobphkgbhhhaaFloats
import Derived.BigQuiet
import Derived.Deep.QuietTactic
namespace Go.Proofs.Ytemobphkgbhhhaa
open Go.ChangeShapes Go.WideShapes Go.ChangeAt Go.RowKit Go.GrowR
set_option linter.unusedVariables false
set_option linter.unusedSimpArgs false

/-- a geometry of the package: layout, stride, numbers, SRID -/
def Obj4 (b : Nat) (l s r : Int) (u : Value) (w : World) : Prop := w.cell? ⟨b, 0, none⟩ = some (.int .i64 l) ∧ w.cell? ⟨b, 1, none⟩ = some (.int .i64 s) ∧ w.cell? ⟨b, 2, none⟩ = some u ∧ w.cell? ⟨b, 3, none⟩ = some (.int .i64 r) ∧ ∀ o, w.frozen? ⟨b, o, none⟩ = false
theorem Obj4.up {b : Nat} {l s r : Int} {u : Value} : Up (Obj4 b l s r u) := fun w w' ⟨h0, h1, h2, h3, h4⟩ hg => ⟨up_cell h0 hg, up_cell h1 hg, up_cell h2 hg, up_cell h3 hg, fun o => (frozUp (cell_ltH h0) hg).trans (h4 o)⟩
theorem Obj4.srid {b : Nat} {l s r : Int} {u : Value} {w : World} (h : Obj4 b l s r u w) (q : Int) : Obj4 b l s q u (w.setCell ⟨b, 3, none⟩ (.int .i64 q)) :=
  let ⟨h0, h1, h2, h3, h4⟩ := h
  ⟨by rw [World.cell?_setCell_other _ _ _ _ (by simp)]; exact h0, by rw [World.cell?_setCell_other _ _ _ _ (by simp)]; exact h1, by rw [World.cell?_setCell_other _ _ _ _ (by simp)]; exact h2, World.cell?_setCell_same _ _ _ h3, fun o => by rw [World.frozen?_setCell]; exact h4 o⟩
def NewObj (B : Nat) (l s : Int) (u : Value) (V : Value) (w : World) : Prop := ∃ b, V = .pointer (some ⟨b, 0, none⟩) ∧ B ≤ b ∧ Obj4 b l s 0 u w
theorem NewObj.up {B : Nat} {l s : Int} {u V : Value} : Up (NewObj B l s u V) := fun _ _ ⟨b, h1, h2, h3⟩ hg => ⟨b, h1, h2, Obj4.up _ _ h3 hg⟩
/-- the same where the layout may be any -/
def GObj (B : Nat) (l r : Int) (s : Nat) (t : TypeId) (xs : List Nat) (w : World) (e : Ending) (w' : World) : Prop := ∃ b u, e = .returned (.iface t (.pointer (some ⟨b, 0, none⟩))) ∧ B ≤ b ∧ Obj4 b l s r u w' ∧ VOwn 36 B u (xs.map (.float .f64)) w' ∧ Grow w w'

set_option maxHeartbeats 2000000 in
theorem newPoint (B : Nat) (l : Int) (s : Nat) (A : Option Addr) (n c : Nat) (w : World) (h1 : 1 ≤ l) (h9 : l ≤ 9) (hs : strideN l = s) (hB : B ≤ w.heap.size) : Calls Try.prog 60 #[.int .i64 l, .slice A n c] w (EffPost (fun _ _ => NewObj B l s (.slice A n c)) w) := by
  have HL := Lib.hid (fun w => layStride l s w h1 h9 hs); clear hs h1 h9
  go_enter Try.func60, Try.ntmps60
  go_wp2_with (go_at_call 91; refine (HL.out _).mono ?_; rintro e w' ⟨rfl, rfl⟩)
  go_ret
  exact EffPost.mk ((Grow.refl w).alloc _) ⟨_, rfl, hB, by go_simp, by go_simp, by go_simp, by go_simp, fun o => by go_simp⟩
theorem sridPoint (b : Nat) (l s r q : Int) (u : Value) (w : World) (h : Obj4 b l s r u w) : Calls Try.prog 61 #[.pointer (some ⟨b, 0, none⟩), .int .i64 q] w fun e w' => e = .returned (.pointer (some ⟨b, 0, none⟩)) ∧ w' = w.setCell ⟨b, 3, none⟩ (.int .i64 q) := by
  obtain ⟨-, -, -, h3, h4⟩ := h
  have f3 := h4 3
  clear h4
  go_enter Try.func61, Try.ntmps61
  go_wp2
  go_ret
  exact ⟨rfl, rfl⟩

set_option maxRecDepth 100000 in
set_option maxHeartbeats 4000000 in
theorem geometry1 (l r : Int) (s : Nat) (fl : List Nat) (A1 : Option Addr) (c1 : Nat) (A2 : Option Addr) (n2 c2 : Nat) (A3 : Option Addr) (n3 c3 : Nat) (A4 : Option Addr) (n4 c4 : Nat) (w : World) (hu : FSl (.slice A1 fl.length c1) fl w) (hl : fl.length ≤ 17592186044416) (h1 : 1 ≤ l) (h9 : l ≤ 9) (hs : strideN l = s) :
    Calls Try.prog 35 #[Geo7 1 l r A1 fl.length c1 A2 n2 c2 A3 n3 c3 A4 n4 c4] w (GObj w.heap.size l r s 71 fl w) := by
  have HU := Lib.hid hu; clear hu
  have HN1 := Lib.hid (fun B A n c w' (hB : B ≤ w'.heap.size) => newPoint B l s A n c w' h1 h9 hs hB); clear hs h1 h9
  go_enter Try.func35, Try.ntmps35
  go_wp2
  refine wp_region_grow (fun i => if i = 4 then some (fun _ _ V ww => FOwn 36 w.heap.size V fl ww) else none) (by kernel_rfl) (by kernel_rfl) ?_ ?_
  · intro i Φ h lo hi v
    (repeat' split at h) <;> cases h
    · exact FOwn.up
  repeat (first
    | (refine wpGrow_skip (by rfl) ?_; simp only [Act.put, List.setIfInBounds_toArray, List.set_cons_zero, List.set_cons_succ, Nat.reduceAdd])
    | (refine wpGrow_det' (by rfl) (by rfl) ?_; apply Exists.intro; refine ⟨fun w' hc hh => ?_, ?_⟩; (have hcell := grow_cell hc; clear hc hh; go_simp; rfl); simp only [Act.put, List.setIfInBounds_toArray, List.set_cons_zero, List.set_cons_succ, Nat.reduceAdd]))
  refine wpGrow_eff' (by rfl) (by rfl) (fun w' hc hh => ?_) (fun v lo hi w' hap hc hh hv => ?_)
  · have HX := Lib.hid (FSl.up _ _ HU.out (((Grow.refl w).alloc _).trans hc))
    have HGC := Lib.hid (((Grow.refl w).alloc _).trans hc)
    clear hc hh
    go_simp
    go_at_call 59
    refine (floats_calls44 _ fl _ HX.out hl).mono ?_
    rintro e w2 ⟨V, rfl, hg, hown⟩
    exact EffPost.mk hg (hown.mono HGC.out.size)
  obtain ⟨A5, n5, c5, rfl⟩ := VOwn.isSl hv
  clear hv
  clear hc hh hap w'
  simp only [Act.put, List.setIfInBounds_toArray, List.set_cons_zero, List.set_cons_succ, Nat.reduceAdd]
  repeat (first
    | (refine wpGrow_skip (by rfl) ?_; simp only [Act.put, List.setIfInBounds_toArray, List.set_cons_zero, List.set_cons_succ, Nat.reduceAdd])
    | (refine wpGrow_det' (by rfl) (by rfl) ?_; apply Exists.intro; refine ⟨fun w' hc hh => ?_, ?_⟩; (have hcell := grow_cell hc; clear hc hh; go_simp; rfl); simp only [Act.put, List.setIfInBounds_toArray, List.set_cons_zero, List.set_cons_succ, Nat.reduceAdd]))
  refine wpGrow_nil ?_
  intro w1 hg hh
  have HF := Lib.hid (hh 4).1
  have HG1 := Lib.hid (((Grow.refl w).alloc _).trans hg)
  have HGA := Lib.hid hg
  have d0 := up_cell (a := ⟨w.heap.size, 0, none⟩) (v := .int .i64 1) (by go_simp) hg
  have d2 := up_cell (a := ⟨w.heap.size, 2, none⟩) (v := .int .i64 r) (by go_simp) hg
  have lW : w.heap.size < w1.heap.size := cell_ltH d0
  clear hh hg
  go_wp2
  refine wp_region_grow_tail 5 (fun i => if i = 2 then some (fun _ _ V ww => NewObj w1.heap.size l s (.slice A5 n5 c5) V ww) else none) (by kernel_rfl) (by kernel_rfl) ?_ ?_
  · intro i Φ h lo hi v
    (repeat' split at h) <;> cases h
    · exact NewObj.up
  simp only [List.take_succ_cons, List.take_zero, List.drop_succ_cons, List.drop_zero]
  repeat (first
    | (refine wpGrow_skip (by rfl) ?_; simp only [Act.put, List.setIfInBounds_toArray, List.set_cons_zero, List.set_cons_succ, Nat.reduceAdd])
    | (refine wpGrow_det' (by rfl) (by rfl) ?_; apply Exists.intro; refine ⟨fun w' hc hh => ?_, ?_⟩; (have hcell := grow_cell hc; clear hc hh; go_simp; rfl); simp only [Act.put, List.setIfInBounds_toArray, List.set_cons_zero, List.set_cons_succ, Nat.reduceAdd]))
  refine wpGrow_eff' (by rfl) (by rfl) (fun w' hc hh => ?_) (fun v lo hi w' hap hc hh hv => ?_)
  · have HGC := Lib.hid hc
    clear hc hh
    go_simp
    go_at_call 60
    exact HN1.out _ _ _ _ _ HGC.out.size
  obtain ⟨b5, rfl, hb5, -⟩ := hv
  clear hc hh hap w'
  simp only [Act.put, List.setIfInBounds_toArray, List.set_cons_zero, List.set_cons_succ, Nat.reduceAdd]
  repeat (first
    | (refine wpGrow_skip (by rfl) ?_; simp only [Act.put, List.setIfInBounds_toArray, List.set_cons_zero, List.set_cons_succ, Nat.reduceAdd])
    | (refine wpGrow_det' (by rfl) (by rfl) ?_; apply Exists.intro; refine ⟨fun w' hc hh => ?_, ?_⟩; (have hcell := grow_cell hc; clear hc hh; go_simp; rfl); simp only [Act.put, List.setIfInBounds_toArray, List.set_cons_zero, List.set_cons_succ, Nat.reduceAdd]))
  refine wpGrow_nil ?_
  intro w3 hg hh
  have HO := (hh 2).1
  obtain ⟨b6, hb6, -, ho⟩ := HO
  cases hb6
  have HOB := Lib.hid ho
  have d2' := up_cell d2 hg
  have HG3 := Lib.hid (HG1.out.trans hg)
  have HFF := Lib.hid (VOwn.up _ _ HF.out hg)
  have lB : w.heap.size ≤ b5 := Nat.le_trans HG1.out.size hb5
  clear hh hg ho d0 d2
  go_wp2_with (go_at_call 61; refine (sridPoint _ _ _ _ _ _ _ HOB.out).mono ?_; rintro e w4 ⟨rfl, rfl⟩)
  go_ret
  refine ⟨b5, _, rfl, lB, HOB.out.srid r, ?_, HG3.out.setCell lB _⟩
  exact VOwn.setNe HFF.out (fun g hg => by have := own_ltH HF.out g hg; have := hb5; simp; omega) _

set_option maxHeartbeats 2000000 in
theorem newLineString (B : Nat) (l : Int) (s : Nat) (A : Option Addr) (n c : Nat) (w : World) (h1 : 1 ≤ l) (h9 : l ≤ 9) (hs : strideN l = s) (hB : B ≤ w.heap.size) : Calls Try.prog 62 #[.int .i64 l, .slice A n c] w (EffPost (fun _ _ => NewObj B l s (.slice A n c)) w) := by
  have HL := Lib.hid (fun w => layStride l s w h1 h9 hs); clear hs h1 h9
  go_enter Try.func62, Try.ntmps62
  go_wp2_with (go_at_call 91; refine (HL.out _).mono ?_; rintro e w' ⟨rfl, rfl⟩)
  go_ret
  exact EffPost.mk ((Grow.refl w).alloc _) ⟨_, rfl, hB, by go_simp, by go_simp, by go_simp, by go_simp, fun o => by go_simp⟩
theorem sridLineString (b : Nat) (l s r q : Int) (u : Value) (w : World) (h : Obj4 b l s r u w) : Calls Try.prog 63 #[.pointer (some ⟨b, 0, none⟩), .int .i64 q] w fun e w' => e = .returned (.pointer (some ⟨b, 0, none⟩)) ∧ w' = w.setCell ⟨b, 3, none⟩ (.int .i64 q) := by
  obtain ⟨-, -, -, h3, h4⟩ := h
  have f3 := h4 3
  clear h4
  go_enter Try.func63, Try.ntmps63
  go_wp2
  go_ret
  exact ⟨rfl, rfl⟩

set_option maxRecDepth 100000 in
set_option maxHeartbeats 4000000 in
theorem geometry2 (l r : Int) (s : Nat) (fl : List Nat) (A1 : Option Addr) (c1 : Nat) (A2 : Option Addr) (n2 c2 : Nat) (A3 : Option Addr) (n3 c3 : Nat) (A4 : Option Addr) (n4 c4 : Nat) (w : World) (hu : FSl (.slice A1 fl.length c1) fl w) (hl : fl.length ≤ 17592186044416) (h1 : 1 ≤ l) (h9 : l ≤ 9) (hs : strideN l = s) :
    Calls Try.prog 35 #[Geo7 2 l r A1 fl.length c1 A2 n2 c2 A3 n3 c3 A4 n4 c4] w (GObj w.heap.size l r s 74 fl w) := by
  have HU := Lib.hid hu; clear hu
  have HN1 := Lib.hid (fun B A n c w' (hB : B ≤ w'.heap.size) => newLineString B l s A n c w' h1 h9 hs hB); clear hs h1 h9
  go_enter Try.func35, Try.ntmps35
  go_wp2
  refine wp_region_grow (fun i => if i = 4 then some (fun _ _ V ww => FOwn 36 w.heap.size V fl ww) else none) (by kernel_rfl) (by kernel_rfl) ?_ ?_
  · intro i Φ h lo hi v
    (repeat' split at h) <;> cases h
    · exact FOwn.up
  repeat (first
    | (refine wpGrow_skip (by rfl) ?_; simp only [Act.put, List.setIfInBounds_toArray, List.set_cons_zero, List.set_cons_succ, Nat.reduceAdd])
    | (refine wpGrow_det' (by rfl) (by rfl) ?_; apply Exists.intro; refine ⟨fun w' hc hh => ?_, ?_⟩; (have hcell := grow_cell hc; clear hc hh; go_simp; rfl); simp only [Act.put, List.setIfInBounds_toArray, List.set_cons_zero, List.set_cons_succ, Nat.reduceAdd]))
  refine wpGrow_eff' (by rfl) (by rfl) (fun w' hc hh => ?_) (fun v lo hi w' hap hc hh hv => ?_)
  · have HX := Lib.hid (FSl.up _ _ HU.out (((Grow.refl w).alloc _).trans hc))
    have HGC := Lib.hid (((Grow.refl w).alloc _).trans hc)
    clear hc hh
    go_simp
    go_at_call 59
    refine (floats_calls44 _ fl _ HX.out hl).mono ?_
    rintro e w2 ⟨V, rfl, hg, hown⟩
    exact EffPost.mk hg (hown.mono HGC.out.size)
  obtain ⟨A5, n5, c5, rfl⟩ := VOwn.isSl hv
  clear hv
  clear hc hh hap w'
  simp only [Act.put, List.setIfInBounds_toArray, List.set_cons_zero, List.set_cons_succ, Nat.reduceAdd]
  repeat (first
    | (refine wpGrow_skip (by rfl) ?_; simp only [Act.put, List.setIfInBounds_toArray, List.set_cons_zero, List.set_cons_succ, Nat.reduceAdd])
    | (refine wpGrow_det' (by rfl) (by rfl) ?_; apply Exists.intro; refine ⟨fun w' hc hh => ?_, ?_⟩; (have hcell := grow_cell hc; clear hc hh; go_simp; rfl); simp only [Act.put, List.setIfInBounds_toArray, List.set_cons_zero, List.set_cons_succ, Nat.reduceAdd]))
  refine wpGrow_nil ?_
  intro w1 hg hh
  have HF := Lib.hid (hh 4).1
  have HG1 := Lib.hid (((Grow.refl w).alloc _).trans hg)
  have HGA := Lib.hid hg
  have d0 := up_cell (a := ⟨w.heap.size, 0, none⟩) (v := .int .i64 2) (by go_simp) hg
  have d2 := up_cell (a := ⟨w.heap.size, 2, none⟩) (v := .int .i64 r) (by go_simp) hg
  have lW : w.heap.size < w1.heap.size := cell_ltH d0
  clear hh hg
  go_wp2
  refine wp_region_grow_tail 5 (fun i => if i = 2 then some (fun _ _ V ww => NewObj w1.heap.size l s (.slice A5 n5 c5) V ww) else none) (by kernel_rfl) (by kernel_rfl) ?_ ?_
  · intro i Φ h lo hi v
    (repeat' split at h) <;> cases h
    · exact NewObj.up
  simp only [List.take_succ_cons, List.take_zero, List.drop_succ_cons, List.drop_zero]
  repeat (first
    | (refine wpGrow_skip (by rfl) ?_; simp only [Act.put, List.setIfInBounds_toArray, List.set_cons_zero, List.set_cons_succ, Nat.reduceAdd])
    | (refine wpGrow_det' (by rfl) (by rfl) ?_; apply Exists.intro; refine ⟨fun w' hc hh => ?_, ?_⟩; (have hcell := grow_cell hc; clear hc hh; go_simp; rfl); simp only [Act.put, List.setIfInBounds_toArray, List.set_cons_zero, List.set_cons_succ, Nat.reduceAdd]))
  refine wpGrow_eff' (by rfl) (by rfl) (fun w' hc hh => ?_) (fun v lo hi w' hap hc hh hv => ?_)
  · have HGC := Lib.hid hc
    clear hc hh
    go_simp
    go_at_call 62
    exact HN1.out _ _ _ _ _ HGC.out.size
  obtain ⟨b5, rfl, hb5, -⟩ := hv
  clear hc hh hap w'
  simp only [Act.put, List.setIfInBounds_toArray, List.set_cons_zero, List.set_cons_succ, Nat.reduceAdd]
  repeat (first
    | (refine wpGrow_skip (by rfl) ?_; simp only [Act.put, List.setIfInBounds_toArray, List.set_cons_zero, List.set_cons_succ, Nat.reduceAdd])
    | (refine wpGrow_det' (by rfl) (by rfl) ?_; apply Exists.intro; refine ⟨fun w' hc hh => ?_, ?_⟩; (have hcell := grow_cell hc; clear hc hh; go_simp; rfl); simp only [Act.put, List.setIfInBounds_toArray, List.set_cons_zero, List.set_cons_succ, Nat.reduceAdd]))
  refine wpGrow_nil ?_
  intro w3 hg hh
  have HO := (hh 2).1
  obtain ⟨b6, hb6, -, ho⟩ := HO
  cases hb6
  have HOB := Lib.hid ho
  have d2' := up_cell d2 hg
  have HG3 := Lib.hid (HG1.out.trans hg)
  have HFF := Lib.hid (VOwn.up _ _ HF.out hg)
  have lB : w.heap.size ≤ b5 := Nat.le_trans HG1.out.size hb5
  clear hh hg ho d0 d2
  go_wp2_with (go_at_call 63; refine (sridLineString _ _ _ _ _ _ _ HOB.out).mono ?_; rintro e w4 ⟨rfl, rfl⟩)
  go_ret
  refine ⟨b5, _, rfl, lB, HOB.out.srid r, ?_, HG3.out.setCell lB _⟩
  exact VOwn.setNe HFF.out (fun g hg => by have := own_ltH HF.out g hg; have := hb5; simp; omega) _

set_option maxHeartbeats 2000000 in
theorem newLinearRing (B : Nat) (l : Int) (s : Nat) (A : Option Addr) (n c : Nat) (w : World) (h1 : 1 ≤ l) (h9 : l ≤ 9) (hs : strideN l = s) (hB : B ≤ w.heap.size) : Calls Try.prog 64 #[.int .i64 l, .slice A n c] w (EffPost (fun _ _ => NewObj B l s (.slice A n c)) w) := by
  have HL := Lib.hid (fun w => layStride l s w h1 h9 hs); clear hs h1 h9
  go_enter Try.func64, Try.ntmps64
  go_wp2_with (go_at_call 91; refine (HL.out _).mono ?_; rintro e w' ⟨rfl, rfl⟩)
  go_ret
  exact EffPost.mk ((Grow.refl w).alloc _) ⟨_, rfl, hB, by go_simp, by go_simp, by go_simp, by go_simp, fun o => by go_simp⟩
theorem sridLinearRing (b : Nat) (l s r q : Int) (u : Value) (w : World) (h : Obj4 b l s r u w) : Calls Try.prog 65 #[.pointer (some ⟨b, 0, none⟩), .int .i64 q] w fun e w' => e = .returned (.pointer (some ⟨b, 0, none⟩)) ∧ w' = w.setCell ⟨b, 3, none⟩ (.int .i64 q) := by
  obtain ⟨-, -, -, h3, h4⟩ := h
  have f3 := h4 3
  clear h4
  go_enter Try.func65, Try.ntmps65
  go_wp2
  go_ret
  exact ⟨rfl, rfl⟩

set_option maxRecDepth 100000 in
set_option maxHeartbeats 4000000 in
theorem geometry8 (l r : Int) (s : Nat) (fl : List Nat) (A1 : Option Addr) (c1 : Nat) (A2 : Option Addr) (n2 c2 : Nat) (A3 : Option Addr) (n3 c3 : Nat) (A4 : Option Addr) (n4 c4 : Nat) (w : World) (hu : FSl (.slice A1 fl.length c1) fl w) (hl : fl.length ≤ 17592186044416) (h1 : 1 ≤ l) (h9 : l ≤ 9) (hs : strideN l = s) :
    Calls Try.prog 35 #[Geo7 8 l r A1 fl.length c1 A2 n2 c2 A3 n3 c3 A4 n4 c4] w (GObj w.heap.size l r s 68 fl w) := by
  have HU := Lib.hid hu; clear hu
  have HN1 := Lib.hid (fun B A n c w' (hB : B ≤ w'.heap.size) => newLinearRing B l s A n c w' h1 h9 hs hB); clear hs h1 h9
  go_enter Try.func35, Try.ntmps35
  go_wp2
  refine wp_region_grow (fun i => if i = 4 then some (fun _ _ V ww => FOwn 36 w.heap.size V fl ww) else none) (by kernel_rfl) (by kernel_rfl) ?_ ?_
  · intro i Φ h lo hi v
    (repeat' split at h) <;> cases h
    · exact FOwn.up
  repeat (first
    | (refine wpGrow_skip (by rfl) ?_; simp only [Act.put, List.setIfInBounds_toArray, List.set_cons_zero, List.set_cons_succ, Nat.reduceAdd])
    | (refine wpGrow_det' (by rfl) (by rfl) ?_; apply Exists.intro; refine ⟨fun w' hc hh => ?_, ?_⟩; (have hcell := grow_cell hc; clear hc hh; go_simp; rfl); simp only [Act.put, List.setIfInBounds_toArray, List.set_cons_zero, List.set_cons_succ, Nat.reduceAdd]))
  refine wpGrow_eff' (by rfl) (by rfl) (fun w' hc hh => ?_) (fun v lo hi w' hap hc hh hv => ?_)
  · have HX := Lib.hid (FSl.up _ _ HU.out (((Grow.refl w).alloc _).trans hc))
    have HGC := Lib.hid (((Grow.refl w).alloc _).trans hc)
    clear hc hh
    go_simp
    go_at_call 59
    refine (floats_calls44 _ fl _ HX.out hl).mono ?_
    rintro e w2 ⟨V, rfl, hg, hown⟩
    exact EffPost.mk hg (hown.mono HGC.out.size)
  obtain ⟨A5, n5, c5, rfl⟩ := VOwn.isSl hv
  clear hv
  clear hc hh hap w'
  simp only [Act.put, List.setIfInBounds_toArray, List.set_cons_zero, List.set_cons_succ, Nat.reduceAdd]
  repeat (first
    | (refine wpGrow_skip (by rfl) ?_; simp only [Act.put, List.setIfInBounds_toArray, List.set_cons_zero, List.set_cons_succ, Nat.reduceAdd])
    | (refine wpGrow_det' (by rfl) (by rfl) ?_; apply Exists.intro; refine ⟨fun w' hc hh => ?_, ?_⟩; (have hcell := grow_cell hc; clear hc hh; go_simp; rfl); simp only [Act.put, List.setIfInBounds_toArray, List.set_cons_zero, List.set_cons_succ, Nat.reduceAdd]))
  refine wpGrow_nil ?_
  intro w1 hg hh
  have HF := Lib.hid (hh 4).1
  have HG1 := Lib.hid (((Grow.refl w).alloc _).trans hg)
  have HGA := Lib.hid hg
  have d0 := up_cell (a := ⟨w.heap.size, 0, none⟩) (v := .int .i64 8) (by go_simp) hg
  have d2 := up_cell (a := ⟨w.heap.size, 2, none⟩) (v := .int .i64 r) (by go_simp) hg
  have lW : w.heap.size < w1.heap.size := cell_ltH d0
  clear hh hg
  go_wp2
  refine wp_region_grow_tail 5 (fun i => if i = 2 then some (fun _ _ V ww => NewObj w1.heap.size l s (.slice A5 n5 c5) V ww) else none) (by kernel_rfl) (by kernel_rfl) ?_ ?_
  · intro i Φ h lo hi v
    (repeat' split at h) <;> cases h
    · exact NewObj.up
  simp only [List.take_succ_cons, List.take_zero, List.drop_succ_cons, List.drop_zero]
  repeat (first
    | (refine wpGrow_skip (by rfl) ?_; simp only [Act.put, List.setIfInBounds_toArray, List.set_cons_zero, List.set_cons_succ, Nat.reduceAdd])
    | (refine wpGrow_det' (by rfl) (by rfl) ?_; apply Exists.intro; refine ⟨fun w' hc hh => ?_, ?_⟩; (have hcell := grow_cell hc; clear hc hh; go_simp; rfl); simp only [Act.put, List.setIfInBounds_toArray, List.set_cons_zero, List.set_cons_succ, Nat.reduceAdd]))
  refine wpGrow_eff' (by rfl) (by rfl) (fun w' hc hh => ?_) (fun v lo hi w' hap hc hh hv => ?_)
  · have HGC := Lib.hid hc
    clear hc hh
    go_simp
    go_at_call 64
    exact HN1.out _ _ _ _ _ HGC.out.size
  obtain ⟨b5, rfl, hb5, -⟩ := hv
  clear hc hh hap w'
  simp only [Act.put, List.setIfInBounds_toArray, List.set_cons_zero, List.set_cons_succ, Nat.reduceAdd]
  repeat (first
    | (refine wpGrow_skip (by rfl) ?_; simp only [Act.put, List.setIfInBounds_toArray, List.set_cons_zero, List.set_cons_succ, Nat.reduceAdd])
    | (refine wpGrow_det' (by rfl) (by rfl) ?_; apply Exists.intro; refine ⟨fun w' hc hh => ?_, ?_⟩; (have hcell := grow_cell hc; clear hc hh; go_simp; rfl); simp only [Act.put, List.setIfInBounds_toArray, List.set_cons_zero, List.set_cons_succ, Nat.reduceAdd]))
  refine wpGrow_nil ?_
  intro w3 hg hh
  have HO := (hh 2).1
  obtain ⟨b6, hb6, -, ho⟩ := HO
  cases hb6
  have HOB := Lib.hid ho
  have d2' := up_cell d2 hg
  have HG3 := Lib.hid (HG1.out.trans hg)
  have HFF := Lib.hid (VOwn.up _ _ HF.out hg)
  have lB : w.heap.size ≤ b5 := Nat.le_trans HG1.out.size hb5
  clear hh hg ho d0 d2
  go_wp2_with (go_at_call 65; refine (sridLinearRing _ _ _ _ _ _ _ HOB.out).mono ?_; rintro e w4 ⟨rfl, rfl⟩)
  go_ret
  refine ⟨b5, _, rfl, lB, HOB.out.srid r, ?_, HG3.out.setCell lB _⟩
  exact VOwn.setNe HFF.out (fun g hg => by have := own_ltH HF.out g hg; have := hb5; simp; omega) _
end Go.Proofs.Ytemobphkgbhhhaa
