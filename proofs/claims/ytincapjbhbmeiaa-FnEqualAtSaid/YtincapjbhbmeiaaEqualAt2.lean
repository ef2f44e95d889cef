import Derived.Test.YtincapjbhbmeiaaFnEqualAt
namespace Go.Proofs.Ytincapjbhbmeiaa
open Go.ChangeShapes Go.WideShapes Go.ChangeAt Go.RowKit Go.GrowR
set_option linter.unusedVariables false
set_option linter.unusedSimpArgs false
theorem idleE (p0 p1 : Addr) (w : World) :
    CallsD Try.prog 55 #[.pointer (some p0), .pointer (some p1)] .returning w fun e u' w' => e = .returned (.tuple #[]) ∧ u' = .returning ∧ w' = w := by
  refine callsD_of_wpS Try.func55 rfl fun c₀ cs hu => ?_
  apply wpS_seq
  apply wpS_region
  simp [wpOpsS, go_sem, recoverD, hu, Try.ntmps55, Exit.thenS]
  refine wpS_cond (t := false) (by simp [Act.eval, Array.replicate]) ?_
  simp only [Bool.false_eq_true, if_false]
  refine wpS_of_wp ?_
  go_wp2
  cases c₀
  simp_all [bodyPostS, results, Try.results55, Exit.thenS]
theorem catchE (p0 p1 : Addr) (z0 z1 : Value) (u : TypeId) (pv : Value) (older : List PanicEntry) (w : World) (c0 : w.cell? p0 = some z0) (f0 : w.frozen? p0 = false) (c1 : w.cell? p1 = some z1) (f1 : w.frozen? p1 = false) (n10 : p0 ≠ p1) :
    CallsD Try.prog 55 #[.pointer (some p0), .pointer (some p1)] (.panicking ({ v := .iface u pv, recovered := false } :: older)) w fun e u' w' =>
      e = .returned (.tuple #[]) ∧ u' = .panicking ({ v := .iface u pv, recovered := true } :: older) ∧ w' = ((w.setCell p0 (.bool false)).setCell p1 (.bool false)) := by
  have d0 : w.cell? p0 = some z0 := by exact c0
  have g0 : w.frozen? p0 = false := by exact f0
  have d1 : (w.setCell p0 (.bool false)).cell? p1 = some z1 := by rw [World.cell?_setCell_other _ _ _ _ n10]; exact c1
  have g1 : (w.setCell p0 (.bool false)).frozen? p1 = false := by rw [World.frozen?_setCell]; exact f1
  refine callsD_of_wpS Try.func55 rfl fun c₀ cs hu => ?_
  apply wpS_seq
  apply wpS_region
  simp [wpOpsS, go_sem, recoverD, hu, Try.ntmps55, Exit.thenS]
  refine wpS_cond (t := true) (by simp [Act.eval, Array.replicate]) ?_
  simp only [if_true]
  first | apply wpS_seq | skip
  apply wpS_region
  simp [wpOpsS, go_sem, d0, g0, d1, g1, bodyPostS, results, Try.results55]
theorem xyEqual_calls (u v : Value) (i j : Int) (w : World) (R : Ending → World → Prop) (h : Calls Try.prog 67 #[u, .int .i64 i, v, .int .i64 j] w R) (hR : ∀ e w', R e w' → (∃ t v, e = .panicked [{ v := .iface t v, recovered := false }]) ∨ ∃ r, e = .returned (.bool r)) :
    Calls Try.prog 56 #[u, .int .i64 i, v, .int .i64 j] w R := by
  go_enter Try.func56, Try.ntmps56
  go_wp2_with fail
  refine h.mono ?_
  intro e w' hr
  have HR := Lib.hid hr
  rcases hR e w' hr with ⟨t, v, rfl⟩ | ⟨r, rfl⟩
  · clear hr hR
    go_wp2
    exact ⟨rfl, HR.out⟩
  · clear hr hR
    go_wp2
    exact HR.out
set_option maxHeartbeats 1000000 in
theorem equalAt_out (u v : Value) (i j : Int) (w : World) (h : ∀ w', Grow w w' → Calls Try.prog 67 #[u, .int .i64 i, v, .int .i64 j] w' (Fell w')) :
    Calls Try.prog 33 #[u, .int .i64 i, v, .int .i64 j] w fun e w' => e = .returned (.tuple #[.bool false, .bool false]) ∧ Grow w w' := by
  have hmf : ∀ (fn : Fn) (first cap : Array Value) (w : World), (Instr.makeFunc fn first cap).run Try.prog w = .ok (.func fn first cap) w := fun _ _ _ _ => rfl
  have HK := Lib.hid (fun w' hg => xyEqual_calls u v i j w' _ (h w' hg) (fun e w' ⟨t, v, he, _⟩ => .inl ⟨t, v, he⟩))
  clear h
  go_enter_defers Try.func33, Try.ntmps33
  go_wp2_with fail
  refine (HK.out _ (((Grow.refl w).alloc _).alloc _)).mono ?_
  rintro e w1 ⟨t, pv, rfl, hg⟩
  have c0 := up_cell (a := ⟨w.heap.size, 0, none⟩) (v := .bool false) (by go_simp) hg
  have c1 := up_cell (a := ⟨w.heap.size + 1, 0, none⟩) (v := .bool false) (by go_simp) hg
  have f0 : w1.frozen? ⟨w.heap.size, 0, none⟩ = false := by rw [grow_frozen hg _ _ (by simp <;> omega)]; go_simp
  have f1 : w1.frozen? ⟨w.heap.size + 1, 0, none⟩ = false := by rw [grow_frozen hg _ _ (by simp <;> omega)]; go_simp
  have HG := Lib.hid ((((Grow.refl w).alloc _).alloc _).trans hg); clear hg
  go_wp2
  refine leaves_cons (f := 55) (args := #[.pointer (some ⟨w.heap.size, 0, none⟩), .pointer (some ⟨w.heap.size + 1, 0, none⟩)]) (by simp) (by simp [go_sem]) ?_
  refine (catchE ⟨w.heap.size, 0, none⟩ ⟨w.heap.size + 1, 0, none⟩ _ _ _ _ [] _ c0 f0 c1 f1 (by simp)).mono ?_
  rintro e u' w'' ⟨rfl, rfl, rfl⟩
  have d0 := World.cell?_setCell_same w1 ⟨w.heap.size, 0, none⟩ (.bool false) c0
  have d1 := World.cell?_setCell_same (w1.setCell ⟨w.heap.size, 0, none⟩ (.bool false)) ⟨w.heap.size + 1, 0, none⟩ (.bool false) (by rw [World.cell?_setCell_other _ _ _ _ (by simp)]; exact c1)
  have d2 := (World.cell?_setCell_other (w1.setCell ⟨w.heap.size, 0, none⟩ (.bool false)) ⟨w.heap.size + 1, 0, none⟩ ⟨w.heap.size, 0, none⟩ (.bool false) (by simp)).trans d0
  simp [Leaves, settle, results, Try.results33, go_sem, d1, d2]
  exact (HG.out.setCell (by simp) _).setCell (by simp <;> omega) _
set_option maxHeartbeats 1000000 in
theorem equalAt_in (r : Bool) (u v : Value) (i j : Int) (w : World) (h : ∀ w', Grow w w' → Calls Try.prog 67 #[u, .int .i64 i, v, .int .i64 j] w' (Told r w')) :
    Calls Try.prog 33 #[u, .int .i64 i, v, .int .i64 j] w fun e w' => e = .returned (.tuple #[.bool r, .bool true]) ∧ Grow w w' := by
  have hmf : ∀ (fn : Fn) (first cap : Array Value) (w : World), (Instr.makeFunc fn first cap).run Try.prog w = .ok (.func fn first cap) w := fun _ _ _ _ => rfl
  have HK := Lib.hid (fun w' hg => xyEqual_calls u v i j w' _ (h w' hg) (fun e w' ⟨he, _⟩ => .inr ⟨_, he⟩))
  clear h
  go_enter_defers Try.func33, Try.ntmps33
  go_wp2_with fail
  refine (HK.out _ (((Grow.refl w).alloc _).alloc _)).mono ?_
  rintro e w1 ⟨rfl, hg⟩
  have c0 := up_cell (a := ⟨w.heap.size, 0, none⟩) (v := .bool false) (by go_simp) hg
  have c1 := up_cell (a := ⟨w.heap.size + 1, 0, none⟩) (v := .bool false) (by go_simp) hg
  have hfr := grow_frozen hg
  have HG := Lib.hid ((((Grow.refl w).alloc _).alloc _).trans hg); clear hg
  go_wp2
  refine leaves_cons (f := 55) (args := #[.pointer (some ⟨w.heap.size, 0, none⟩), .pointer (some ⟨w.heap.size + 1, 0, none⟩)]) (by simp) (by simp [go_sem]) ?_
  refine (idleE ⟨w.heap.size, 0, none⟩ ⟨w.heap.size + 1, 0, none⟩ _).mono ?_
  rintro e u' w'' ⟨rfl, rfl, rfl⟩
  exact ⟨.tuple #[.bool r, .bool true], by simp [results, Try.results33, go_sem, c0, c1], rfl, (HG.out.setCell (by simp) _).setCell (by simp <;> omega) _⟩
set_option maxHeartbeats 1000000 in
theorem law_in (u v : Value) (xs ys : List Nat) (i j x y x1 y1 : Nat) (w : World) (hu : FSl u xs w) (hv : FSl v ys w) (hi : i + 1 < xs.length) (hj : j + 1 < ys.length) (hn : xs.length ≤ 1000) (hm : ys.length ≤ 1000)
    (hx : xs[i]? = some x) (hy : ys[j]? = some y) (hx1 : xs[i + 1]? = some x1) (hy1 : ys[j + 1]? = some y1) :
    Calls Try.prog 11 #[u, .int .i64 i, v, .int .i64 j] w fun e w' => e = .returned (.bool true) ∧ Grow w w' := by
  obtain ⟨A, c, rfl, -, hA⟩ := hu
  obtain ⟨B, d, rfl, -, hB⟩ := hv
  rcases hA with h0 | ⟨b1, o1, rfl, hA⟩
  · rw [h0] at hx; simp at hx
  rcases hB with h0 | ⟨b2, o2, rfl, hB⟩
  · rw [h0] at hy; simp at hy
  have HX := Lib.hid (hA i x hx); have HX1 := Lib.hid (hA (i + 1) x1 hx1); have HY := Lib.hid (hB j y hy); have HY1 := Lib.hid (hB (j + 1) y1 hy1)
  have HK := Lib.hid (equalAt_in (eqB x y && eqB x1 y1) _ _ i j w fun w' hg => equal_in b1 o1 xs.length c b2 o2 ys.length d i j x y x1 y1 w' hi hj (by omega) (by omega) (up_cell HX.out hg) (up_cell HY.out hg) (up_cell HX1.out hg) (up_cell HY1.out hg))
  clear hA hB hx hy hx1 hy1
  go_enter Try.func11, Try.ntmps11
  cases h1 : eqB x y <;> cases h2 : eqB x1 y1
  all_goals
    have H1 := Lib.hid h1; have H2 := Lib.hid h2
    have h1' : (FloatKind.f64.format.order x y == some Ordering.eq) = eqB x y := rfl
    have h2' : (FloatKind.f64.format.order x1 y1 == some Ordering.eq) = eqB x1 y1 := rfl
    rw [h1] at h1'; rw [h2] at h2'
    clear h1 h2
    go_wp2_with (go_at_call 33; refine HK.out.mono ?_; rw [H1.out, H2.out]; rintro e w' ⟨rfl, hg⟩; have HG := Lib.hid hg; clear hg; have e1 := up_cell HX.out HG.out; have e2 := up_cell HX1.out HG.out; have e3 := up_cell HY.out HG.out; have e4 := up_cell HY1.out HG.out)
    go_quiet (fail)
    go_wp2
    go_ret
    exact ⟨by first | rfl | simp, HG.out.drewN _⟩
end Go.Proofs.Ytincapjbhbmeiaa
