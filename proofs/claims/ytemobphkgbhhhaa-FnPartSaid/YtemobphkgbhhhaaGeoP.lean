import Derived.Test.YtemobphkgbhhhaaGeoM
namespace Go.Proofs.Ytemobphkgbhhhaa
open Go.ChangeShapes Go.WideShapes Go.ChangeAt Go.RowKit Go.GrowR
set_option linter.unusedVariables false
set_option linter.unusedSimpArgs false

abbrev optF (b : Nat) : Value := .func (Fn.func 98) #[] #[.pointer (some ⟨b, 0, none⟩)]
def OptE (B : Nat) (v : Value) (V : Value) (w : World) : Prop := ∃ b, V = optF b ∧ w.cell? ⟨b, 0, none⟩ = some v ∧ B ≤ b
theorem OptE.up {B : Nat} {v V : Value} : Up (OptE B v V) := fun _ _ ⟨b, h1, h2, h3⟩ hg => ⟨b, h1, up_cell h2 hg, h3⟩
theorem optEnds (B : Nat) (A : Option Addr) (n c : Nat) (w : World) (hB : B ≤ w.heap.size) : Calls Try.prog 70 #[.slice A n c] w (EffPost (fun _ _ => OptE B (.slice A n c)) w) := by
  have hmf : ∀ (fn : Fn) (first cap : Array Value) (w : World), (Instr.makeFunc fn first cap).run Try.prog w = .ok (.func fn first cap) w := fun _ _ _ _ => rfl
  go_enter Try.func70, Try.ntmps70
  go_wp2
  go_ret
  exact EffPost.mk ((Grow.refl w).alloc _) ⟨_, rfl, by go_simp, hB⟩
theorem IOwn.none {B n c : Nat} {en : List Int} {w : World} (h : IOwn B (.slice .none n c) en w) : en = [] := by
  obtain ⟨A, c', he, -, h'⟩ := VOwn.sl h
  simp only [Value.slice.injEq] at he
  rcases h' with h' | ⟨b, o, h', -⟩
  · exact List.map_eq_nil_iff.1 h'
  · rw [h'] at he; cases he.1
theorem VOwn.num {e : TypeId} {B n c : Nat} {A : Option Addr} {xs : List Value} {w : World} (h : VOwn e B (.slice A n c) xs w) : n = xs.length := by
  obtain ⟨A', c', he, -, -⟩ := VOwn.sl h
  simp only [Value.slice.injEq] at he
  exact he.2.1
def OptI (B : Nat) (en : List Int) (V : Value) (w : World) : Prop := ∃ A n c, IOwn B (.slice A n c) en w ∧ OptE 0 (.slice A n c) V w
theorem OptI.up {B : Nat} {en : List Int} {V : Value} : Up (OptI B en V) := fun _ _ ⟨A, n, c, h1, h2⟩ hg => ⟨A, n, c, IOwn.up _ _ h1 hg, OptE.up _ _ h2 hg⟩
def OptS (B : Nat) (en : List Int) (V : Value) (w : World) : Prop := ∃ A n c b0 b, IOwn B (.slice A n c) en w ∧ V = .slice (some ⟨b0, 0, none⟩) 1 1 ∧ w.cell? ⟨b0, 0, none⟩ = some (optF b) ∧ w.cell? ⟨b, 0, none⟩ = some (.slice A n c)
theorem OptS.up {B : Nat} {en : List Int} {V : Value} : Up (OptS B en V) := fun _ _ ⟨A, n, c, b0, b, h1, h2, h3, h4⟩ hg => ⟨A, n, c, b0, b, IOwn.up _ _ h1 hg, h2, up_cell h3 hg, up_cell h4 hg⟩
theorem opt1 (b bp : Nat) (A : Option Addr) (n c : Nat) (z : Value) (w : World) (h : w.cell? ⟨b, 0, none⟩ = some (.slice A n c)) (hp : w.cell? ⟨bp, 4, none⟩ = some z) (hf : w.frozen? ⟨bp, 4, none⟩ = false) : Calls Try.prog 98 #[.pointer (some ⟨bp, 0, none⟩), .pointer (some ⟨b, 0, none⟩)] w (fun e w' => e = .returned (.tuple #[]) ∧ w' = w.setCell ⟨bp, 4, none⟩ (.slice A n c)) := by
  go_enter Try.func98, Try.ntmps98
  go_wp2
  exact bodyPost_end (results_none rfl _ _ _) rfl ⟨rfl, rfl⟩
theorem Obj5.ends {b : Nat} {l s r : Int} {u e : Value} {w : World} (h : Obj5 b l s r u e w) (q : Value) : Obj5 b l s r u q (w.setCell ⟨b, 4, none⟩ q) :=
  let ⟨⟨h0, h1, h2, h3, h4⟩, h5⟩ := h
  ⟨⟨by rw [World.cell?_setCell_other _ _ _ _ (by simp)]; exact h0, by rw [World.cell?_setCell_other _ _ _ _ (by simp)]; exact h1, by rw [World.cell?_setCell_other _ _ _ _ (by simp)]; exact h2, by rw [World.cell?_setCell_other _ _ _ _ (by simp)]; exact h3, fun o => by rw [World.frozen?_setCell]; exact h4 o⟩, World.cell?_setCell_same _ _ _ h5⟩
set_option maxRecDepth 100000 in
set_option maxHeartbeats 2000000 in
theorem newMP (B : Nat) (l : Int) (s : Nat) (A : Option Addr) (n c : Nat) (A2 : Option Addr) (n2 c2 b0 b : Nat) (w : World) (h1 : 1 ≤ l) (h9 : l ≤ 9) (hs : strideN l = s) (hB : B ≤ w.heap.size) (hc0 : w.cell? ⟨b0, 0, none⟩ = some (optF b)) (hc1 : w.cell? ⟨b, 0, none⟩ = some (.slice A2 n2 c2)) (hn : A2 = none → n = 0) : Calls Try.prog 69 #[.int .i64 l, .slice A n c, .slice (some ⟨b0, 0, none⟩) 1 1] w (EffPost (fun _ _ => NewObj5 B l s (.slice A n c) (.slice A2 n2 c2)) w) := by
  have HL := Lib.hid (fun w => layStride l s w h1 h9 hs); clear hs h1 h9
  have l0 := cell_ltH hc0; have l1 := cell_ltH hc1
  have heq : ∀ a l c w, (binOp .eql 25 (.slice a l c) (.slice none 0 0)).run Try.prog w = .ok (.bool a.isNone) w := fun a l c w => by simp only [binOp]; simp [run_equal_slice_nil (P := Try.prog) w 25 3 a l c undI]
  go_enter Try.func69, Try.ntmps69
  go_wp2_with (go_at_call 91; refine (HL.out _).mono ?_; rintro e w' ⟨rfl, rfl⟩)
  go_loopw [37] (fun i wr => (i = .int .i64 0 ∧ Obj5 w.heap.size l s 0 (.slice A n c) (.slice none 0 0) wr ∧ Grow w wr) ∨ (i = .int .i64 1 ∧ Obj5 w.heap.size l s 0 (.slice A n c) (.slice A2 n2 c2) wr ∧ Grow w wr)) (fun i _ => 1 - (intOf i).toNat)
  case atStart => exact .inl ⟨rfl, ⟨⟨by go_simp, by go_simp, by go_simp, by go_simp, fun o => by go_simp⟩, by go_simp⟩, (Grow.refl w).alloc _⟩
  case round =>
    rcases hrel with ⟨rfl, ho, hg⟩ | ⟨rfl, ho, hg⟩
    · have e0 := up_cell hc0 hg; have e1 := up_cell hc1 hg
      have HO := Lib.hid ho; have HG := Lib.hid hg
      have c4 := ho.2
      have f4 := ho.1.2.2.2.2 4
      clear hc0 hc1 ho hg
      go_wp2_with (go_at_call 98; refine (opt1 b w.heap.size A2 n2 c2 _ _ e1 c4 f4).mono ?_; rintro e w' ⟨rfl, rfl⟩)
      go_roundw
      case rel => exact .inr ⟨by go_num, HO.out.ends _, HG.out.setCell (Nat.le_refl _) _⟩
      case measure => simp [intOf]
    · have HO := Lib.hid ho; have HG := Lib.hid hg
      have c4 := ho.2
      have c2' := ho.1.2.2.1
      clear hc0 hc1 ho hg l0 l1
      rcases A2 with _ | a2
      · obtain rfl := hn rfl
        go_wp2
        go_ret
        exact EffPost.mk HG.out ⟨_, rfl, hB, HO.out⟩
      · clear hn
        go_wp2
        go_ret
        exact EffPost.mk HG.out ⟨_, rfl, hB, HO.out⟩

theorem sridMultiPoint (b : Nat) (l s r q : Int) (u e : Value) (w : World) (h : Obj5 b l s r u e w) : Calls Try.prog 71 #[.pointer (some ⟨b, 0, none⟩), .int .i64 q] w fun e w' => e = .returned (.pointer (some ⟨b, 0, none⟩)) ∧ w' = w.setCell ⟨b, 3, none⟩ (.int .i64 q) := by
  obtain ⟨⟨-, -, -, h3, h4⟩, -⟩ := h
  have f3 := h4 3
  clear h4
  go_enter Try.func71, Try.ntmps71
  go_wp2
  go_ret
  exact ⟨rfl, rfl⟩
set_option maxRecDepth 100000 in
set_option maxHeartbeats 4000000 in
theorem geometry4 (l r : Int) (s : Nat) (fl : List Nat) (en : List Int) (A1 : Option Addr) (c1 : Nat) (A2 : Option Addr) (c2 : Nat) (A3 : Option Addr) (n3 c3 : Nat) (A4 : Option Addr) (n4 c4 : Nat) (w : World) (hu : FSl (.slice A1 fl.length c1) fl w) (he : ISl (.slice A2 en.length c2) en w) (hl : fl.length ≤ 17592186044416) (hl2 : en.length ≤ 17592186044416) (h1 : 1 ≤ l) (h9 : l ≤ 9) (hs : strideN l = s) (hen : en = [] → fl = []) :
    Calls Try.prog 35 #[Geo7 4 l r A1 fl.length c1 A2 en.length c2 A3 n3 c3 A4 n4 c4] w (GObj5 w.heap.size l r s 70 fl (fun ev w' => IOwn w.heap.size ev en w') w) := by
  have HU := Lib.hid hu; clear hu
  have HE := Lib.hid he; clear he
  have HN1 := Lib.hid (fun B A n c A2 n2 c2 b0 b w' (hB : B ≤ w'.heap.size) => newMP B l s A n c A2 n2 c2 b0 b w' h1 h9 hs hB); clear hs h1 h9
  go_enter Try.func35, Try.ntmps35
  go_wp2
  refine wp_region_grow (fun i => if i = 4 then some (fun _ _ V ww => FOwn 36 w.heap.size V fl ww) else none) (by kernel_rfl) (by kernel_rfl) ?_ ?_
  · intro i Φ h lo hi v
    (repeat' split at h) <;> cases h
    · exact FOwn.up
  repeat (first
    | (refine wpGrow_skip (by rfl) ?_; simp only [Act.put, List.setIfInBounds_toArray, List.set_cons_zero, List.set_cons_succ, Nat.reduceAdd])
    | (refine wpGrow_det' (by rfl) (by rfl) ?_; apply Exists.intro; refine ⟨fun w' hc hh => ?_, ?_⟩; (have hcell := grow_cell hc; clear hc hh; go_simp; rfl); simp only [Act.put, List.setIfInBounds_toArray, List.set_cons_zero, List.set_cons_succ, Nat.reduceAdd]))
  refine wpGrow_eff' (by rfl) (by rfl) (fun w' hc hh => ?_) (fun v lo hi w' hap hc hh hv => ?_)
  · have HX := Lib.hid (FSl.up _ _ HU.out (((Grow.refl w).alloc _).trans hc))
    have HGC := Lib.hid (((Grow.refl w).alloc _).trans hc)
    clear hc hh
    go_simp
    go_at_call 59
    refine (floats_calls44 _ fl _ HX.out hl).mono ?_
    rintro e w2 ⟨V, rfl, hg, hown⟩
    exact EffPost.mk hg (hown.mono HGC.out.size)
  obtain ⟨A5, n5, c5, rfl⟩ := VOwn.isSl hv
  clear hv
  clear hc hh hap w'
  simp only [Act.put, List.setIfInBounds_toArray, List.set_cons_zero, List.set_cons_succ, Nat.reduceAdd]
  repeat (first
    | (refine wpGrow_skip (by rfl) ?_; simp only [Act.put, List.setIfInBounds_toArray, List.set_cons_zero, List.set_cons_succ, Nat.reduceAdd])
    | (refine wpGrow_det' (by rfl) (by rfl) ?_; apply Exists.intro; refine ⟨fun w' hc hh => ?_, ?_⟩; (have hcell := grow_cell hc; clear hc hh; go_simp; rfl); simp only [Act.put, List.setIfInBounds_toArray, List.set_cons_zero, List.set_cons_succ, Nat.reduceAdd]))
  refine wpGrow_nil ?_
  intro w1 hg hh
  have HF := Lib.hid (hh 4).1
  have HG1 := Lib.hid (((Grow.refl w).alloc _).trans hg)
  have HGA := Lib.hid hg
  have d0 := up_cell (a := ⟨w.heap.size, 0, none⟩) (v := .int .i64 4) (by go_simp) hg
  have d2 := up_cell (a := ⟨w.heap.size, 2, none⟩) (v := .int .i64 r) (by go_simp) hg
  have d4 := up_cell (a := ⟨w.heap.size, 4, none⟩) (v := .slice A2 en.length c2) (by go_simp) hg
  have lW : w.heap.size < w1.heap.size := cell_ltH d0
  clear hh hg
  go_wp2
  refine wp_region_grow_tail 10 (fun i => if i = 4 then some (fun _ _ V ww => IOwn w.heap.size V en ww) else if i = 5 then some (fun _ _ V ww => OptI w.heap.size en V ww) else if i = 6 then some (fun _ _ V ww => OptS w.heap.size en V ww) else if i = 7 then some (fun _ _ V ww => NewOwn5 w1.heap.size l s (.slice A5 n5 c5) (fun ev w' => IOwn w.heap.size ev en w') V ww) else none) (by kernel_rfl) (by kernel_rfl) ?_ ?_
  · intro i Φ h lo hi v
    (repeat' split at h) <;> cases h
    · exact IOwn.up
    · exact OptI.up
    · exact OptS.up
    · exact NewOwn5.up
  simp only [List.take_succ_cons, List.take_zero, List.drop_succ_cons, List.drop_zero]
  repeat (first
    | (refine wpGrow_skip (by rfl) ?_; simp only [Act.put, List.setIfInBounds_toArray, List.set_cons_zero, List.set_cons_succ, Nat.reduceAdd])
    | (refine wpGrow_det' (by rfl) (by rfl) ?_; apply Exists.intro; refine ⟨fun w' hc hh => ?_, ?_⟩; (have hcell := grow_cell hc; clear hc hh; go_simp; rfl); simp only [Act.put, List.setIfInBounds_toArray, List.set_cons_zero, List.set_cons_succ, Nat.reduceAdd]))
  refine wpGrow_eff' (by rfl) (by rfl) (fun w' hc hh => ?_) (fun v lo hi w' hap hc hh hv => ?_)
  · have HX := Lib.hid (ISl.up _ _ HE.out (HG1.out.trans hc))
    have HGC := Lib.hid (HG1.out.trans hc)
    clear hc hh
    go_simp
    go_at_call 67
    refine (ints_calls _ en _ HX.out hl2).mono ?_
    rintro e w2 ⟨V, rfl, hg, hown⟩
    exact EffPost.mk hg (VOwn.mono hown HGC.out.size)
  obtain ⟨A6, n6, c6, rfl⟩ := VOwn.isSl hv
  clear hv
  clear hc hh hap w'
  simp only [Act.put, List.setIfInBounds_toArray, List.set_cons_zero, List.set_cons_succ, Nat.reduceAdd]
  repeat (first
    | (refine wpGrow_skip (by rfl) ?_; simp only [Act.put, List.setIfInBounds_toArray, List.set_cons_zero, List.set_cons_succ, Nat.reduceAdd])
    | (refine wpGrow_det' (by rfl) (by rfl) ?_; apply Exists.intro; refine ⟨fun w' hc hh => ?_, ?_⟩; (have hcell := grow_cell hc; clear hc hh; go_simp; rfl); simp only [Act.put, List.setIfInBounds_toArray, List.set_cons_zero, List.set_cons_succ, Nat.reduceAdd]))
  refine wpGrow_eff' (by rfl) (by rfl) (fun w' hc hh => ?_) (fun v lo hi w' hap hc hh hv => ?_)
  · have HI6 := Lib.hid (hh 4 (anc_of 6 (by kernel_rfl)))
    clear hc hh
    go_simp
    go_at_call 70
    refine (optEnds 0 _ _ _ _ (Nat.zero_le _)).mono ?_
    rintro e w2 ⟨V, rfl, hg, ho⟩
    exact EffPost.mk hg ⟨_, _, _, IOwn.up _ _ HI6.out hg, ho⟩
  obtain ⟨A7, n7, c7, -, b7, rfl, -, -⟩ := hv
  clear hc hh hap w'
  simp only [Act.put, List.setIfInBounds_toArray, List.set_cons_zero, List.set_cons_succ, Nat.reduceAdd]
  repeat (first
    | (refine wpGrow_skip (by rfl) ?_; simp only [Act.put, List.setIfInBounds_toArray, List.set_cons_zero, List.set_cons_succ, Nat.reduceAdd])
    | (refine wpGrow_det' (by rfl) (by rfl) ?_; apply Exists.intro; refine ⟨fun w' hc hh => ?_, ?_⟩; (have hcell := grow_cell hc; clear hc hh; go_simp; rfl); simp only [Act.put, List.setIfInBounds_toArray, List.set_cons_zero, List.set_cons_succ, Nat.reduceAdd]))
  refine wpGrow_eff' (by rfl) (by rfl) (fun w' hc hh => ?_) (fun v lo hi w' hap hc hh hv => ?_)
  · have HI6 := Lib.hid (hh 5 (anc_of 7 (by kernel_rfl)))
    clear hc hh
    obtain ⟨A9, n9, c9, hown9, b10, hb10, hc10, -⟩ := HI6.out
    cases hb10
    have HO9 := Lib.hid hown9; have HC9 := Lib.hid hc10
    clear hown9 hc10
    go_simp
    exact EffVal.mk ((Grow.refl _).alloc _) ⟨_, _, _, _, b7, IOwn.up _ _ HO9.out ((Grow.refl _).alloc _), rfl, by go_simp, up_cell HC9.out ((Grow.refl _).alloc _)⟩
  obtain ⟨A8, n8, c8, b8, b9, -, rfl, -, -⟩ := hv
  clear hc hh hap w'
  simp only [Act.put, List.setIfInBounds_toArray, List.set_cons_zero, List.set_cons_succ, Nat.reduceAdd]
  repeat (first
    | (refine wpGrow_skip (by rfl) ?_; simp only [Act.put, List.setIfInBounds_toArray, List.set_cons_zero, List.set_cons_succ, Nat.reduceAdd])
    | (refine wpGrow_det' (by rfl) (by rfl) ?_; apply Exists.intro; refine ⟨fun w' hc hh => ?_, ?_⟩; (have hcell := grow_cell hc; clear hc hh; go_simp; rfl); simp only [Act.put, List.setIfInBounds_toArray, List.set_cons_zero, List.set_cons_succ, Nat.reduceAdd]))
  refine wpGrow_eff' (by rfl) (by rfl) (fun w' hc hh => ?_) (fun v lo hi w' hap hc hh hv => ?_)
  · have HGC := Lib.hid hc
    have HI6 := Lib.hid (hh 6 (anc_of 8 (by kernel_rfl)))
    clear hc hh
    obtain ⟨A9, n9, c9, b10, b11, hown9, he9, ho0, ho1⟩ := HI6.out
    cases he9
    have HOWN := Lib.hid hown9
    clear hown9
    go_simp
    go_at_call 69
    refine (HN1.out _ _ _ _ _ _ _ _ _ _ (Nat.le_refl _) ho0 ho1 ?_).mono ?_
    · intro hA; subst hA; have h0 := hen (IOwn.none HOWN.out); have h1 := VOwn.num HF.out; rw [h1, h0]; rfl
    rintro e w2 ⟨V, rfl, hg, b, hV, hb, ho⟩
    exact EffPost.mk hg ⟨_, b, _, HOWN.out, hg, hb, hV, Nat.le_trans HGC.out.size hb, ho⟩
  obtain ⟨ev, b5, w0, -, -, -, rfl, hb5, -⟩ := hv
  clear hc hh hap w'
  simp only [Act.put, List.setIfInBounds_toArray, List.set_cons_zero, List.set_cons_succ, Nat.reduceAdd]
  repeat (first
    | (refine wpGrow_skip (by rfl) ?_; simp only [Act.put, List.setIfInBounds_toArray, List.set_cons_zero, List.set_cons_succ, Nat.reduceAdd])
    | (refine wpGrow_det' (by rfl) (by rfl) ?_; apply Exists.intro; refine ⟨fun w' hc hh => ?_, ?_⟩; (have hcell := grow_cell hc; clear hc hh; go_simp; rfl); simp only [Act.put, List.setIfInBounds_toArray, List.set_cons_zero, List.set_cons_succ, Nat.reduceAdd]))
  refine wpGrow_nil ?_
  intro w3 hg hh
  obtain ⟨ev, b6, w0, hev, hg0, hs0, hb6, -, ho⟩ := (hh 7).1
  cases hb6
  have HOB := Lib.hid ho
  have HEV := Lib.hid hev
  have d2' := up_cell d2 hg
  have HG3 := Lib.hid (HG1.out.trans hg)
  have HFF := Lib.hid (VOwn.up _ _ HF.out hg)
  have lB : w.heap.size ≤ b5 := Nat.le_trans HG1.out.size hb5
  have HB5 := Lib.hid hb5
  have HG0 := Lib.hid (Grow.setCell hg0 (p := ⟨b5, 3, none⟩) hs0 (.int .i64 r))
  clear hh hg ho d0 d2 d4 hev hg0 hs0
  go_wp2_with (go_at_call 71; refine (sridMultiPoint _ _ _ _ _ _ _ _ HOB.out).mono ?_; rintro e w4 ⟨rfl, rfl⟩)
  go_ret
  refine ⟨b5, _, _, rfl, lB, HOB.out.srid r, ?_, ?_, HG3.out.setCell lB _⟩
  · exact VOwn.setNe HFF.out (fun g hg => by have := own_ltH HF.out g hg; have := HB5.out; simp; omega) _
  · exact IOwn.up _ _ HEV.out HG0.out
end Go.Proofs.Ytemobphkgbhhhaa
