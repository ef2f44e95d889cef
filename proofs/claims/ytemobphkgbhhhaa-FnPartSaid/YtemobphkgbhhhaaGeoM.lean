import Derived.Test.YtemobphkgbhhhaaGeoK
import Derived.Test.YtemobphkgbhhhaaInts
namespace Go.Proofs.Ytemobphkgbhhhaa
open Go.ChangeShapes Go.WideShapes Go.ChangeAt Go.RowKit Go.GrowR
set_option linter.unusedVariables false
set_option linter.unusedSimpArgs false

/-- a geometry with ends: layout, stride, numbers, SRID, ends *)-/
def Obj5 (b : Nat) (l s r : Int) (u e : Value) (w : World) : Prop := Obj4 b l s r u w ∧ w.cell? ⟨b, 4, none⟩ = some e
theorem Obj5.up {b : Nat} {l s r : Int} {u e : Value} : Up (Obj5 b l s r u e) := fun _ _ ⟨h1, h2⟩ hg => ⟨Obj4.up _ _ h1 hg, up_cell h2 hg⟩
theorem Obj5.srid {b : Nat} {l s r : Int} {u e : Value} {w : World} (h : Obj5 b l s r u e w) (q : Int) : Obj5 b l s q u e (w.setCell ⟨b, 3, none⟩ (.int .i64 q)) :=
  ⟨h.1.srid q, by rw [World.cell?_setCell_other _ _ _ _ (by simp)]; exact h.2⟩
def NewObj5 (B : Nat) (l s : Int) (u e : Value) (V : Value) (w : World) : Prop := ∃ b, V = .pointer (some ⟨b, 0, none⟩) ∧ B ≤ b ∧ Obj5 b l s 0 u e w
theorem NewObj5.up {B : Nat} {l s : Int} {u e V : Value} : Up (NewObj5 B l s u e V) := fun _ _ ⟨b, h1, h2, h3⟩ hg => ⟨b, h1, h2, Obj5.up _ _ h3 hg⟩
theorem IIOwn.isSl {B : Nat} {V : Value} {nss : List (List Int)} {w : World} (h : IIOwn B V nss w) : ∃ A n c, V = .slice A n c := let ⟨_, h1, _⟩ := h; VOwn.isSl h1
theorem IIOwn.mono {B B' : Nat} {V : Value} {nss : List (List Int)} {w : World} (h : IIOwn B V nss w) (hB : B' ≤ B) : IIOwn B' V nss w := let ⟨us, h1, h2⟩ := h; ⟨us, VOwn.mono h1 hB, h2.imp fun _ _ h => VOwn.mono h hB⟩
def NewOwn5 (B2 : Nat) (l s : Int) (u : Value) (F : Value → World → Prop) (V : Value) (w : World) : Prop := ∃ ev b w0, F ev w0 ∧ Grow w0 w ∧ w0.heap.size ≤ b ∧ V = .pointer (some ⟨b, 0, none⟩) ∧ B2 ≤ b ∧ Obj5 b l s 0 u ev w
theorem NewOwn5.up {B2 : Nat} {l s : Int} {u : Value} {F : Value → World → Prop} {V : Value} : Up (NewOwn5 B2 l s u F V) := fun _ _ ⟨ev, b, w0, h1, h2, h3, h4, h5, h6⟩ hg => ⟨ev, b, w0, h1, h2.trans hg, h3, h4, h5, Obj5.up _ _ h6 hg⟩
def GObj5 (B : Nat) (l r : Int) (s : Nat) (t : TypeId) (xs : List Nat) (F : Value → World → Prop) (w : World) (e : Ending) (w' : World) : Prop := ∃ b u ev, e = .returned (.iface t (.pointer (some ⟨b, 0, none⟩))) ∧ B ≤ b ∧ Obj5 b l s r u ev w' ∧ VOwn 36 B u (xs.map (.float .f64)) w' ∧ F ev w' ∧ Grow w w'

set_option maxHeartbeats 2000000 in
theorem newPolygon (B : Nat) (l : Int) (s : Nat) (A : Option Addr) (n c : Nat) (A2 : Option Addr) (n2 c2 : Nat) (w : World) (h1 : 1 ≤ l) (h9 : l ≤ 9) (hs : strideN l = s) (hB : B ≤ w.heap.size) : Calls Try.prog 66 #[.int .i64 l, .slice A n c, .slice A2 n2 c2] w (EffPost (fun _ _ => NewObj5 B l s (.slice A n c) (.slice A2 n2 c2)) w) := by
  have HL := Lib.hid (fun w => layStride l s w h1 h9 hs); clear hs h1 h9
  go_enter Try.func66, Try.ntmps66
  go_wp2_with (go_at_call 91; refine (HL.out _).mono ?_; rintro e w' ⟨rfl, rfl⟩)
  go_ret
  exact EffPost.mk ((Grow.refl w).alloc _) ⟨_, rfl, hB, ⟨by go_simp, by go_simp, by go_simp, by go_simp, fun o => by go_simp⟩, by go_simp⟩
theorem sridPolygon (b : Nat) (l s r q : Int) (u e : Value) (w : World) (h : Obj5 b l s r u e w) : Calls Try.prog 68 #[.pointer (some ⟨b, 0, none⟩), .int .i64 q] w fun e w' => e = .returned (.pointer (some ⟨b, 0, none⟩)) ∧ w' = w.setCell ⟨b, 3, none⟩ (.int .i64 q) := by
  obtain ⟨⟨-, -, -, h3, h4⟩, -⟩ := h
  have f3 := h4 3
  clear h4
  go_enter Try.func68, Try.ntmps68
  go_wp2
  go_ret
  exact ⟨rfl, rfl⟩

set_option maxRecDepth 100000 in
set_option maxHeartbeats 4000000 in
theorem geometry3 (l r : Int) (s : Nat) (fl : List Nat) (en : List Int) (A1 : Option Addr) (c1 : Nat) (A2 : Option Addr) (c2 : Nat) (A3 : Option Addr) (n3 c3 : Nat) (A4 : Option Addr) (n4 c4 : Nat) (w : World) (hu : FSl (.slice A1 fl.length c1) fl w) (he : ISl (.slice A2 en.length c2) en w) (hl : fl.length ≤ 17592186044416) (hl2 : en.length ≤ 17592186044416) (h1 : 1 ≤ l) (h9 : l ≤ 9) (hs : strideN l = s) :
    Calls Try.prog 35 #[Geo7 3 l r A1 fl.length c1 A2 en.length c2 A3 n3 c3 A4 n4 c4] w (GObj5 w.heap.size l r s 66 fl (fun ev w' => IOwn w.heap.size ev en w') w) := by
  have HU := Lib.hid hu; clear hu
  have HE := Lib.hid he; clear he
  have HN1 := Lib.hid (fun B A n c A2 n2 c2 w' (hB : B ≤ w'.heap.size) => newPolygon B l s A n c A2 n2 c2 w' h1 h9 hs hB); clear hs h1 h9
  go_enter Try.func35, Try.ntmps35
  go_wp2
  refine wp_region_grow (fun i => if i = 4 then some (fun _ _ V ww => FOwn 36 w.heap.size V fl ww) else none) (by kernel_rfl) (by kernel_rfl) ?_ ?_
  · intro i Φ h lo hi v
    (repeat' split at h) <;> cases h
    · exact FOwn.up
  repeat (first
    | (refine wpGrow_skip (by rfl) ?_; simp only [Act.put, List.setIfInBounds_toArray, List.set_cons_zero, List.set_cons_succ, Nat.reduceAdd])
    | (refine wpGrow_det' (by rfl) (by rfl) ?_; apply Exists.intro; refine ⟨fun w' hc hh => ?_, ?_⟩; (have hcell := grow_cell hc; clear hc hh; go_simp; rfl); simp only [Act.put, List.setIfInBounds_toArray, List.set_cons_zero, List.set_cons_succ, Nat.reduceAdd]))
  refine wpGrow_eff' (by rfl) (by rfl) (fun w' hc hh => ?_) (fun v lo hi w' hap hc hh hv => ?_)
  · have HX := Lib.hid (FSl.up _ _ HU.out (((Grow.refl w).alloc _).trans hc))
    have HGC := Lib.hid (((Grow.refl w).alloc _).trans hc)
    clear hc hh
    go_simp
    go_at_call 59
    refine (floats_calls44 _ fl _ HX.out hl).mono ?_
    rintro e w2 ⟨V, rfl, hg, hown⟩
    exact EffPost.mk hg (hown.mono HGC.out.size)
  obtain ⟨A5, n5, c5, rfl⟩ := VOwn.isSl hv
  clear hv
  clear hc hh hap w'
  simp only [Act.put, List.setIfInBounds_toArray, List.set_cons_zero, List.set_cons_succ, Nat.reduceAdd]
  repeat (first
    | (refine wpGrow_skip (by rfl) ?_; simp only [Act.put, List.setIfInBounds_toArray, List.set_cons_zero, List.set_cons_succ, Nat.reduceAdd])
    | (refine wpGrow_det' (by rfl) (by rfl) ?_; apply Exists.intro; refine ⟨fun w' hc hh => ?_, ?_⟩; (have hcell := grow_cell hc; clear hc hh; go_simp; rfl); simp only [Act.put, List.setIfInBounds_toArray, List.set_cons_zero, List.set_cons_succ, Nat.reduceAdd]))
  refine wpGrow_nil ?_
  intro w1 hg hh
  have HF := Lib.hid (hh 4).1
  have HG1 := Lib.hid (((Grow.refl w).alloc _).trans hg)
  have HGA := Lib.hid hg
  have d0 := up_cell (a := ⟨w.heap.size, 0, none⟩) (v := .int .i64 3) (by go_simp) hg
  have d2 := up_cell (a := ⟨w.heap.size, 2, none⟩) (v := .int .i64 r) (by go_simp) hg
  have d4 := up_cell (a := ⟨w.heap.size, 4, none⟩) (v := .slice A2 en.length c2) (by go_simp) hg
  have lW : w.heap.size < w1.heap.size := cell_ltH d0
  clear hh hg
  go_wp2
  refine wp_region_grow_tail 8 (fun i => if i = 4 then some (fun _ _ V ww => IOwn w.heap.size V en ww) else if i = 5 then some (fun _ _ V ww => NewOwn5 w1.heap.size l s (.slice A5 n5 c5) (fun ev w' => IOwn w.heap.size ev en w') V ww) else none) (by kernel_rfl) (by kernel_rfl) ?_ ?_
  · intro i Φ h lo hi v
    (repeat' split at h) <;> cases h
    · exact IOwn.up
    · exact NewOwn5.up
  simp only [List.take_succ_cons, List.take_zero, List.drop_succ_cons, List.drop_zero]
  repeat (first
    | (refine wpGrow_skip (by rfl) ?_; simp only [Act.put, List.setIfInBounds_toArray, List.set_cons_zero, List.set_cons_succ, Nat.reduceAdd])
    | (refine wpGrow_det' (by rfl) (by rfl) ?_; apply Exists.intro; refine ⟨fun w' hc hh => ?_, ?_⟩; (have hcell := grow_cell hc; clear hc hh; go_simp; rfl); simp only [Act.put, List.setIfInBounds_toArray, List.set_cons_zero, List.set_cons_succ, Nat.reduceAdd]))
  refine wpGrow_eff' (by rfl) (by rfl) (fun w' hc hh => ?_) (fun v lo hi w' hap hc hh hv => ?_)
  · have HX := Lib.hid (ISl.up _ _ HE.out (HG1.out.trans hc))
    have HGC := Lib.hid (HG1.out.trans hc)
    clear hc hh
    go_simp
    go_at_call 67
    refine (ints_calls _ en _ HX.out hl2).mono ?_
    rintro e w2 ⟨V, rfl, hg, hown⟩
    exact EffPost.mk hg (VOwn.mono hown HGC.out.size)
  obtain ⟨A6, n6, c6, rfl⟩ := VOwn.isSl hv
  clear hv
  clear hc hh hap w'
  simp only [Act.put, List.setIfInBounds_toArray, List.set_cons_zero, List.set_cons_succ, Nat.reduceAdd]
  repeat (first
    | (refine wpGrow_skip (by rfl) ?_; simp only [Act.put, List.setIfInBounds_toArray, List.set_cons_zero, List.set_cons_succ, Nat.reduceAdd])
    | (refine wpGrow_det' (by rfl) (by rfl) ?_; apply Exists.intro; refine ⟨fun w' hc hh => ?_, ?_⟩; (have hcell := grow_cell hc; clear hc hh; go_simp; rfl); simp only [Act.put, List.setIfInBounds_toArray, List.set_cons_zero, List.set_cons_succ, Nat.reduceAdd]))
  refine wpGrow_eff' (by rfl) (by rfl) (fun w' hc hh => ?_) (fun v lo hi w' hap hc hh hv => ?_)
  · have HGC := Lib.hid hc
    have HI6 := Lib.hid (hh 4 (anc_of 6 (by kernel_rfl)))
    clear hc hh
    go_simp
    go_at_call 66
    refine (HN1.out _ _ _ _ _ _ _ _ (Nat.le_refl _)).mono ?_
    rintro e w2 ⟨V, rfl, hg, b, hV, hb, ho⟩
    exact EffPost.mk hg ⟨_, b, _, HI6.out, hg, hb, hV, Nat.le_trans HGC.out.size hb, ho⟩
  obtain ⟨ev, b5, w0, -, -, -, rfl, hb5, -⟩ := hv
  clear hc hh hap w'
  simp only [Act.put, List.setIfInBounds_toArray, List.set_cons_zero, List.set_cons_succ, Nat.reduceAdd]
  repeat (first
    | (refine wpGrow_skip (by rfl) ?_; simp only [Act.put, List.setIfInBounds_toArray, List.set_cons_zero, List.set_cons_succ, Nat.reduceAdd])
    | (refine wpGrow_det' (by rfl) (by rfl) ?_; apply Exists.intro; refine ⟨fun w' hc hh => ?_, ?_⟩; (have hcell := grow_cell hc; clear hc hh; go_simp; rfl); simp only [Act.put, List.setIfInBounds_toArray, List.set_cons_zero, List.set_cons_succ, Nat.reduceAdd]))
  refine wpGrow_nil ?_
  intro w3 hg hh
  obtain ⟨ev, b6, w0, hev, hg0, hs0, hb6, -, ho⟩ := (hh 5).1
  cases hb6
  have HOB := Lib.hid ho
  have HEV := Lib.hid hev
  have d2' := up_cell d2 hg
  have HG3 := Lib.hid (HG1.out.trans hg)
  have HFF := Lib.hid (VOwn.up _ _ HF.out hg)
  have lB : w.heap.size ≤ b5 := Nat.le_trans HG1.out.size hb5
  have HB5 := Lib.hid hb5
  have HG0 := Lib.hid (Grow.setCell hg0 (p := ⟨b5, 3, none⟩) hs0 (.int .i64 r))
  clear hh hg ho d0 d2 d4 hev hg0 hs0
  go_wp2_with (go_at_call 68; refine (sridPolygon _ _ _ _ _ _ _ _ HOB.out).mono ?_; rintro e w4 ⟨rfl, rfl⟩)
  go_ret
  refine ⟨b5, _, _, rfl, lB, HOB.out.srid r, ?_, ?_, HG3.out.setCell lB _⟩
  · exact VOwn.setNe HFF.out (fun g hg => by have := own_ltH HF.out g hg; have := HB5.out; simp; omega) _
  · exact IOwn.up _ _ HEV.out HG0.out

set_option maxHeartbeats 2000000 in
theorem newMultiLineString (B : Nat) (l : Int) (s : Nat) (A : Option Addr) (n c : Nat) (A2 : Option Addr) (n2 c2 : Nat) (w : World) (h1 : 1 ≤ l) (h9 : l ≤ 9) (hs : strideN l = s) (hB : B ≤ w.heap.size) : Calls Try.prog 72 #[.int .i64 l, .slice A n c, .slice A2 n2 c2] w (EffPost (fun _ _ => NewObj5 B l s (.slice A n c) (.slice A2 n2 c2)) w) := by
  have HL := Lib.hid (fun w => layStride l s w h1 h9 hs); clear hs h1 h9
  go_enter Try.func72, Try.ntmps72
  go_wp2_with (go_at_call 91; refine (HL.out _).mono ?_; rintro e w' ⟨rfl, rfl⟩)
  go_ret
  exact EffPost.mk ((Grow.refl w).alloc _) ⟨_, rfl, hB, ⟨by go_simp, by go_simp, by go_simp, by go_simp, fun o => by go_simp⟩, by go_simp⟩
theorem sridMultiLineString (b : Nat) (l s r q : Int) (u e : Value) (w : World) (h : Obj5 b l s r u e w) : Calls Try.prog 73 #[.pointer (some ⟨b, 0, none⟩), .int .i64 q] w fun e w' => e = .returned (.pointer (some ⟨b, 0, none⟩)) ∧ w' = w.setCell ⟨b, 3, none⟩ (.int .i64 q) := by
  obtain ⟨⟨-, -, -, h3, h4⟩, -⟩ := h
  have f3 := h4 3
  clear h4
  go_enter Try.func73, Try.ntmps73
  go_wp2
  go_ret
  exact ⟨rfl, rfl⟩

set_option maxRecDepth 100000 in
set_option maxHeartbeats 4000000 in
theorem geometry5 (l r : Int) (s : Nat) (fl : List Nat) (en : List Int) (A1 : Option Addr) (c1 : Nat) (A2 : Option Addr) (c2 : Nat) (A3 : Option Addr) (n3 c3 : Nat) (A4 : Option Addr) (n4 c4 : Nat) (w : World) (hu : FSl (.slice A1 fl.length c1) fl w) (he : ISl (.slice A2 en.length c2) en w) (hl : fl.length ≤ 17592186044416) (hl2 : en.length ≤ 17592186044416) (h1 : 1 ≤ l) (h9 : l ≤ 9) (hs : strideN l = s) :
    Calls Try.prog 35 #[Geo7 5 l r A1 fl.length c1 A2 en.length c2 A3 n3 c3 A4 n4 c4] w (GObj5 w.heap.size l r s 73 fl (fun ev w' => IOwn w.heap.size ev en w') w) := by
  have HU := Lib.hid hu; clear hu
  have HE := Lib.hid he; clear he
  have HN1 := Lib.hid (fun B A n c A2 n2 c2 w' (hB : B ≤ w'.heap.size) => newMultiLineString B l s A n c A2 n2 c2 w' h1 h9 hs hB); clear hs h1 h9
  go_enter Try.func35, Try.ntmps35
  go_wp2
  refine wp_region_grow (fun i => if i = 4 then some (fun _ _ V ww => FOwn 36 w.heap.size V fl ww) else none) (by kernel_rfl) (by kernel_rfl) ?_ ?_
  · intro i Φ h lo hi v
    (repeat' split at h) <;> cases h
    · exact FOwn.up
  repeat (first
    | (refine wpGrow_skip (by rfl) ?_; simp only [Act.put, List.setIfInBounds_toArray, List.set_cons_zero, List.set_cons_succ, Nat.reduceAdd])
    | (refine wpGrow_det' (by rfl) (by rfl) ?_; apply Exists.intro; refine ⟨fun w' hc hh => ?_, ?_⟩; (have hcell := grow_cell hc; clear hc hh; go_simp; rfl); simp only [Act.put, List.setIfInBounds_toArray, List.set_cons_zero, List.set_cons_succ, Nat.reduceAdd]))
  refine wpGrow_eff' (by rfl) (by rfl) (fun w' hc hh => ?_) (fun v lo hi w' hap hc hh hv => ?_)
  · have HX := Lib.hid (FSl.up _ _ HU.out (((Grow.refl w).alloc _).trans hc))
    have HGC := Lib.hid (((Grow.refl w).alloc _).trans hc)
    clear hc hh
    go_simp
    go_at_call 59
    refine (floats_calls44 _ fl _ HX.out hl).mono ?_
    rintro e w2 ⟨V, rfl, hg, hown⟩
    exact EffPost.mk hg (hown.mono HGC.out.size)
  obtain ⟨A5, n5, c5, rfl⟩ := VOwn.isSl hv
  clear hv
  clear hc hh hap w'
  simp only [Act.put, List.setIfInBounds_toArray, List.set_cons_zero, List.set_cons_succ, Nat.reduceAdd]
  repeat (first
    | (refine wpGrow_skip (by rfl) ?_; simp only [Act.put, List.setIfInBounds_toArray, List.set_cons_zero, List.set_cons_succ, Nat.reduceAdd])
    | (refine wpGrow_det' (by rfl) (by rfl) ?_; apply Exists.intro; refine ⟨fun w' hc hh => ?_, ?_⟩; (have hcell := grow_cell hc; clear hc hh; go_simp; rfl); simp only [Act.put, List.setIfInBounds_toArray, List.set_cons_zero, List.set_cons_succ, Nat.reduceAdd]))
  refine wpGrow_nil ?_
  intro w1 hg hh
  have HF := Lib.hid (hh 4).1
  have HG1 := Lib.hid (((Grow.refl w).alloc _).trans hg)
  have HGA := Lib.hid hg
  have d0 := up_cell (a := ⟨w.heap.size, 0, none⟩) (v := .int .i64 5) (by go_simp) hg
  have d2 := up_cell (a := ⟨w.heap.size, 2, none⟩) (v := .int .i64 r) (by go_simp) hg
  have d4 := up_cell (a := ⟨w.heap.size, 4, none⟩) (v := .slice A2 en.length c2) (by go_simp) hg
  have lW : w.heap.size < w1.heap.size := cell_ltH d0
  clear hh hg
  go_wp2
  refine wp_region_grow_tail 8 (fun i => if i = 4 then some (fun _ _ V ww => IOwn w.heap.size V en ww) else if i = 5 then some (fun _ _ V ww => NewOwn5 w1.heap.size l s (.slice A5 n5 c5) (fun ev w' => IOwn w.heap.size ev en w') V ww) else none) (by kernel_rfl) (by kernel_rfl) ?_ ?_
  · intro i Φ h lo hi v
    (repeat' split at h) <;> cases h
    · exact IOwn.up
    · exact NewOwn5.up
  simp only [List.take_succ_cons, List.take_zero, List.drop_succ_cons, List.drop_zero]
  repeat (first
    | (refine wpGrow_skip (by rfl) ?_; simp only [Act.put, List.setIfInBounds_toArray, List.set_cons_zero, List.set_cons_succ, Nat.reduceAdd])
    | (refine wpGrow_det' (by rfl) (by rfl) ?_; apply Exists.intro; refine ⟨fun w' hc hh => ?_, ?_⟩; (have hcell := grow_cell hc; clear hc hh; go_simp; rfl); simp only [Act.put, List.setIfInBounds_toArray, List.set_cons_zero, List.set_cons_succ, Nat.reduceAdd]))
  refine wpGrow_eff' (by rfl) (by rfl) (fun w' hc hh => ?_) (fun v lo hi w' hap hc hh hv => ?_)
  · have HX := Lib.hid (ISl.up _ _ HE.out (HG1.out.trans hc))
    have HGC := Lib.hid (HG1.out.trans hc)
    clear hc hh
    go_simp
    go_at_call 67
    refine (ints_calls _ en _ HX.out hl2).mono ?_
    rintro e w2 ⟨V, rfl, hg, hown⟩
    exact EffPost.mk hg (VOwn.mono hown HGC.out.size)
  obtain ⟨A6, n6, c6, rfl⟩ := VOwn.isSl hv
  clear hv
  clear hc hh hap w'
  simp only [Act.put, List.setIfInBounds_toArray, List.set_cons_zero, List.set_cons_succ, Nat.reduceAdd]
  repeat (first
    | (refine wpGrow_skip (by rfl) ?_; simp only [Act.put, List.setIfInBounds_toArray, List.set_cons_zero, List.set_cons_succ, Nat.reduceAdd])
    | (refine wpGrow_det' (by rfl) (by rfl) ?_; apply Exists.intro; refine ⟨fun w' hc hh => ?_, ?_⟩; (have hcell := grow_cell hc; clear hc hh; go_simp; rfl); simp only [Act.put, List.setIfInBounds_toArray, List.set_cons_zero, List.set_cons_succ, Nat.reduceAdd]))
  refine wpGrow_eff' (by rfl) (by rfl) (fun w' hc hh => ?_) (fun v lo hi w' hap hc hh hv => ?_)
  · have HGC := Lib.hid hc
    have HI6 := Lib.hid (hh 4 (anc_of 6 (by kernel_rfl)))
    clear hc hh
    go_simp
    go_at_call 72
    refine (HN1.out _ _ _ _ _ _ _ _ (Nat.le_refl _)).mono ?_
    rintro e w2 ⟨V, rfl, hg, b, hV, hb, ho⟩
    exact EffPost.mk hg ⟨_, b, _, HI6.out, hg, hb, hV, Nat.le_trans HGC.out.size hb, ho⟩
  obtain ⟨ev, b5, w0, -, -, -, rfl, hb5, -⟩ := hv
  clear hc hh hap w'
  simp only [Act.put, List.setIfInBounds_toArray, List.set_cons_zero, List.set_cons_succ, Nat.reduceAdd]
  repeat (first
    | (refine wpGrow_skip (by rfl) ?_; simp only [Act.put, List.setIfInBounds_toArray, List.set_cons_zero, List.set_cons_succ, Nat.reduceAdd])
    | (refine wpGrow_det' (by rfl) (by rfl) ?_; apply Exists.intro; refine ⟨fun w' hc hh => ?_, ?_⟩; (have hcell := grow_cell hc; clear hc hh; go_simp; rfl); simp only [Act.put, List.setIfInBounds_toArray, List.set_cons_zero, List.set_cons_succ, Nat.reduceAdd]))
  refine wpGrow_nil ?_
  intro w3 hg hh
  obtain ⟨ev, b6, w0, hev, hg0, hs0, hb6, -, ho⟩ := (hh 5).1
  cases hb6
  have HOB := Lib.hid ho
  have HEV := Lib.hid hev
  have d2' := up_cell d2 hg
  have HG3 := Lib.hid (HG1.out.trans hg)
  have HFF := Lib.hid (VOwn.up _ _ HF.out hg)
  have lB : w.heap.size ≤ b5 := Nat.le_trans HG1.out.size hb5
  have HB5 := Lib.hid hb5
  have HG0 := Lib.hid (Grow.setCell hg0 (p := ⟨b5, 3, none⟩) hs0 (.int .i64 r))
  clear hh hg ho d0 d2 d4 hev hg0 hs0
  go_wp2_with (go_at_call 73; refine (sridMultiLineString _ _ _ _ _ _ _ _ HOB.out).mono ?_; rintro e w4 ⟨rfl, rfl⟩)
  go_ret
  refine ⟨b5, _, _, rfl, lB, HOB.out.srid r, ?_, ?_, HG3.out.setCell lB _⟩
  · exact VOwn.setNe HFF.out (fun g hg => by have := own_ltH HF.out g hg; have := HB5.out; simp; omega) _
  · exact IOwn.up _ _ HEV.out HG0.out

set_option maxHeartbeats 2000000 in
theorem newMultiPolygon (B : Nat) (l : Int) (s : Nat) (A : Option Addr) (n c : Nat) (A2 : Option Addr) (n2 c2 : Nat) (w : World) (h1 : 1 ≤ l) (h9 : l ≤ 9) (hs : strideN l = s) (hB : B ≤ w.heap.size) : Calls Try.prog 74 #[.int .i64 l, .slice A n c, .slice A2 n2 c2] w (EffPost (fun _ _ => NewObj5 B l s (.slice A n c) (.slice A2 n2 c2)) w) := by
  have HL := Lib.hid (fun w => layStride l s w h1 h9 hs); clear hs h1 h9
  go_enter Try.func74, Try.ntmps74
  go_wp2_with (go_at_call 91; refine (HL.out _).mono ?_; rintro e w' ⟨rfl, rfl⟩)
  go_ret
  exact EffPost.mk ((Grow.refl w).alloc _) ⟨_, rfl, hB, ⟨by go_simp, by go_simp, by go_simp, by go_simp, fun o => by go_simp⟩, by go_simp⟩
theorem sridMultiPolygon (b : Nat) (l s r q : Int) (u e : Value) (w : World) (h : Obj5 b l s r u e w) : Calls Try.prog 76 #[.pointer (some ⟨b, 0, none⟩), .int .i64 q] w fun e w' => e = .returned (.pointer (some ⟨b, 0, none⟩)) ∧ w' = w.setCell ⟨b, 3, none⟩ (.int .i64 q) := by
  obtain ⟨⟨-, -, -, h3, h4⟩, -⟩ := h
  have f3 := h4 3
  clear h4
  go_enter Try.func76, Try.ntmps76
  go_wp2
  go_ret
  exact ⟨rfl, rfl⟩

set_option maxRecDepth 100000 in
set_option maxHeartbeats 4000000 in
theorem geometry6 (l r : Int) (s : Nat) (fl : List Nat) (en : List (List Int)) (A1 : Option Addr) (c1 : Nat) (A2 : Option Addr) (n2 c2 : Nat) (A3 : Option Addr) (c3 : Nat) (A4 : Option Addr) (n4 c4 : Nat) (w : World) (hu : FSl (.slice A1 fl.length c1) fl w) (he : ISSl (.slice A3 en.length c3) en w) (hl : fl.length ≤ 17592186044416) (hl2 : en.length ≤ 5864062014805) (hl3 : ∀ (i : Nat) (xs : List Int), en[i]? = some xs → xs.length ≤ 17592186044416) (h1 : 1 ≤ l) (h9 : l ≤ 9) (hs : strideN l = s) :
    Calls Try.prog 35 #[Geo7 6 l r A1 fl.length c1 A2 n2 c2 A3 en.length c3 A4 n4 c4] w (GObj5 w.heap.size l r s 76 fl (fun ev w' => IIOwn w.heap.size ev en w') w) := by
  have HU := Lib.hid hu; clear hu
  have HE := Lib.hid he; clear he
  have HN1 := Lib.hid (fun B A n c A2 n2 c2 w' (hB : B ≤ w'.heap.size) => newMultiPolygon B l s A n c A2 n2 c2 w' h1 h9 hs hB); clear hs h1 h9
  go_enter Try.func35, Try.ntmps35
  go_wp2
  refine wp_region_grow (fun i => if i = 4 then some (fun _ _ V ww => FOwn 36 w.heap.size V fl ww) else none) (by kernel_rfl) (by kernel_rfl) ?_ ?_
  · intro i Φ h lo hi v
    (repeat' split at h) <;> cases h
    · exact FOwn.up
  repeat (first
    | (refine wpGrow_skip (by rfl) ?_; simp only [Act.put, List.setIfInBounds_toArray, List.set_cons_zero, List.set_cons_succ, Nat.reduceAdd])
    | (refine wpGrow_det' (by rfl) (by rfl) ?_; apply Exists.intro; refine ⟨fun w' hc hh => ?_, ?_⟩; (have hcell := grow_cell hc; clear hc hh; go_simp; rfl); simp only [Act.put, List.setIfInBounds_toArray, List.set_cons_zero, List.set_cons_succ, Nat.reduceAdd]))
  refine wpGrow_eff' (by rfl) (by rfl) (fun w' hc hh => ?_) (fun v lo hi w' hap hc hh hv => ?_)
  · have HX := Lib.hid (FSl.up _ _ HU.out (((Grow.refl w).alloc _).trans hc))
    have HGC := Lib.hid (((Grow.refl w).alloc _).trans hc)
    clear hc hh
    go_simp
    go_at_call 59
    refine (floats_calls44 _ fl _ HX.out hl).mono ?_
    rintro e w2 ⟨V, rfl, hg, hown⟩
    exact EffPost.mk hg (hown.mono HGC.out.size)
  obtain ⟨A5, n5, c5, rfl⟩ := VOwn.isSl hv
  clear hv
  clear hc hh hap w'
  simp only [Act.put, List.setIfInBounds_toArray, List.set_cons_zero, List.set_cons_succ, Nat.reduceAdd]
  repeat (first
    | (refine wpGrow_skip (by rfl) ?_; simp only [Act.put, List.setIfInBounds_toArray, List.set_cons_zero, List.set_cons_succ, Nat.reduceAdd])
    | (refine wpGrow_det' (by rfl) (by rfl) ?_; apply Exists.intro; refine ⟨fun w' hc hh => ?_, ?_⟩; (have hcell := grow_cell hc; clear hc hh; go_simp; rfl); simp only [Act.put, List.setIfInBounds_toArray, List.set_cons_zero, List.set_cons_succ, Nat.reduceAdd]))
  refine wpGrow_nil ?_
  intro w1 hg hh
  have HF := Lib.hid (hh 4).1
  have HG1 := Lib.hid (((Grow.refl w).alloc _).trans hg)
  have HGA := Lib.hid hg
  have d0 := up_cell (a := ⟨w.heap.size, 0, none⟩) (v := .int .i64 6) (by go_simp) hg
  have d2 := up_cell (a := ⟨w.heap.size, 2, none⟩) (v := .int .i64 r) (by go_simp) hg
  have d4 := up_cell (a := ⟨w.heap.size, 5, none⟩) (v := .slice A3 en.length c3) (by go_simp) hg
  have lW : w.heap.size < w1.heap.size := cell_ltH d0
  clear hh hg
  go_wp2
  refine wp_region_grow_tail 8 (fun i => if i = 4 then some (fun _ _ V ww => IIOwn w.heap.size V en ww) else if i = 5 then some (fun _ _ V ww => NewOwn5 w1.heap.size l s (.slice A5 n5 c5) (fun ev w' => IIOwn w.heap.size ev en w') V ww) else none) (by kernel_rfl) (by kernel_rfl) ?_ ?_
  · intro i Φ h lo hi v
    (repeat' split at h) <;> cases h
    · exact IIOwn.up
    · exact NewOwn5.up
  simp only [List.take_succ_cons, List.take_zero, List.drop_succ_cons, List.drop_zero]
  repeat (first
    | (refine wpGrow_skip (by rfl) ?_; simp only [Act.put, List.setIfInBounds_toArray, List.set_cons_zero, List.set_cons_succ, Nat.reduceAdd])
    | (refine wpGrow_det' (by rfl) (by rfl) ?_; apply Exists.intro; refine ⟨fun w' hc hh => ?_, ?_⟩; (have hcell := grow_cell hc; clear hc hh; go_simp; rfl); simp only [Act.put, List.setIfInBounds_toArray, List.set_cons_zero, List.set_cons_succ, Nat.reduceAdd]))
  refine wpGrow_eff' (by rfl) (by rfl) (fun w' hc hh => ?_) (fun v lo hi w' hap hc hh hv => ?_)
  · have HX := Lib.hid (ISSl.up _ _ HE.out (HG1.out.trans hc))
    have HGC := Lib.hid (HG1.out.trans hc)
    clear hc hh
    go_simp
    go_at_call 75
    refine (intss_calls _ en _ HX.out hl2 hl3).mono ?_
    rintro e w2 ⟨V, rfl, hg, hown⟩
    exact EffPost.mk hg (IIOwn.mono hown HGC.out.size)
  obtain ⟨A6, n6, c6, rfl⟩ := IIOwn.isSl hv
  clear hv
  clear hc hh hap w'
  simp only [Act.put, List.setIfInBounds_toArray, List.set_cons_zero, List.set_cons_succ, Nat.reduceAdd]
  repeat (first
    | (refine wpGrow_skip (by rfl) ?_; simp only [Act.put, List.setIfInBounds_toArray, List.set_cons_zero, List.set_cons_succ, Nat.reduceAdd])
    | (refine wpGrow_det' (by rfl) (by rfl) ?_; apply Exists.intro; refine ⟨fun w' hc hh => ?_, ?_⟩; (have hcell := grow_cell hc; clear hc hh; go_simp; rfl); simp only [Act.put, List.setIfInBounds_toArray, List.set_cons_zero, List.set_cons_succ, Nat.reduceAdd]))
  refine wpGrow_eff' (by rfl) (by rfl) (fun w' hc hh => ?_) (fun v lo hi w' hap hc hh hv => ?_)
  · have HGC := Lib.hid hc
    have HI6 := Lib.hid (hh 4 (anc_of 6 (by kernel_rfl)))
    clear hc hh
    go_simp
    go_at_call 74
    refine (HN1.out _ _ _ _ _ _ _ _ (Nat.le_refl _)).mono ?_
    rintro e w2 ⟨V, rfl, hg, b, hV, hb, ho⟩
    exact EffPost.mk hg ⟨_, b, _, HI6.out, hg, hb, hV, Nat.le_trans HGC.out.size hb, ho⟩
  obtain ⟨ev, b5, w0, -, -, -, rfl, hb5, -⟩ := hv
  clear hc hh hap w'
  simp only [Act.put, List.setIfInBounds_toArray, List.set_cons_zero, List.set_cons_succ, Nat.reduceAdd]
  repeat (first
    | (refine wpGrow_skip (by rfl) ?_; simp only [Act.put, List.setIfInBounds_toArray, List.set_cons_zero, List.set_cons_succ, Nat.reduceAdd])
    | (refine wpGrow_det' (by rfl) (by rfl) ?_; apply Exists.intro; refine ⟨fun w' hc hh => ?_, ?_⟩; (have hcell := grow_cell hc; clear hc hh; go_simp; rfl); simp only [Act.put, List.setIfInBounds_toArray, List.set_cons_zero, List.set_cons_succ, Nat.reduceAdd]))
  refine wpGrow_nil ?_
  intro w3 hg hh
  obtain ⟨ev, b6, w0, hev, hg0, hs0, hb6, -, ho⟩ := (hh 5).1
  cases hb6
  have HOB := Lib.hid ho
  have HEV := Lib.hid hev
  have d2' := up_cell d2 hg
  have HG3 := Lib.hid (HG1.out.trans hg)
  have HFF := Lib.hid (VOwn.up _ _ HF.out hg)
  have lB : w.heap.size ≤ b5 := Nat.le_trans HG1.out.size hb5
  have HB5 := Lib.hid hb5
  have HG0 := Lib.hid (Grow.setCell hg0 (p := ⟨b5, 3, none⟩) hs0 (.int .i64 r))
  clear hh hg ho d0 d2 d4 hev hg0 hs0
  go_wp2_with (go_at_call 76; refine (sridMultiPolygon _ _ _ _ _ _ _ _ HOB.out).mono ?_; rintro e w4 ⟨rfl, rfl⟩)
  go_ret
  refine ⟨b5, _, _, rfl, lB, HOB.out.srid r, ?_, ?_, HG3.out.setCell lB _⟩
  · exact VOwn.setNe HFF.out (fun g hg => by have := own_ltH HF.out g hg; have := HB5.out; simp; omega) _
  · exact IIOwn.up _ _ HEV.out HG0.out
end Go.Proofs.Ytemobphkgbhhhaa
