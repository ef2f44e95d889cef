import Derived.Test.YtegknlnkkoeahaaAppF
import Derived.Test.YtegknlnkkoeahaaArrA
import Derived.Test.YtegknlnkkoeahaaSegB
import Derived.Test.YtegknlnkkoeahaaInfl
namespace Go.Proofs.Ytegknlnkkoeahaa
open Go.ChangeShapes Go.WideShapes Go.ChangeAt Go.RowKit Go.GrowR
set_option linter.unusedVariables false
set_option linter.unusedSimpArgs false

theorem infoFp : (Try.prog.info? 42).map (fun i => (i.zero, i.size, i.bytes)) = some (some (.float .f64 0), 1, 8) := by kernel_rfl
def PartQ (g : GT) (w : World) (e : Ending) (w' : World) : Prop := ∃ v, e = .returned v ∧ Grow w w' ∧ Stab w.heap.size w'.heap.size (GV g v) w'
def NewE (V : Value) (w : World) : Prop := ∃ h, V = .slice (some ⟨h, 0, none⟩) 0 0
theorem NewE.up {V : Value} : Up (NewE V) := fun _ _ h _ => h
def FlP (B : Nat) (M : List Nat) (lo hi : Nat) (V : Value) (w : World) : Prop := B ≤ lo ∧ hi ≤ w.heap.size ∧ Stab lo hi (VSl V (M.map (.float .f64))) w
theorem FlP.up {B : Nat} {M : List Nat} {lo hi : Nat} {V : Value} : Up (FlP B M lo hi V) := fun _ _ ⟨h1, h2, h3⟩ hg => ⟨h1, Nat.le_trans h2 hg.size, h3.grow hg h2⟩
theorem vslForm {v : Value} {xs : List Value} {w : World} (h : VSl v xs w) : ∃ A c, v = .slice A xs.length c := let ⟨A, c, h1, _⟩ := h; ⟨A, c, h1⟩
theorem GV.part {k l : Int} {V : Value} {M : List Nat} {w : World} (h : VSl V (M.map (.float .f64)) w) : GV (.mk k l 0 M [] [] []) (GeoF k l 0 V (.slice none 0 0) (.slice none 0 0) (.slice none 0 0)) w := by
  unfold GV
  exact ⟨_, _, _, none, 0, rfl, Nat.le_refl _, h.f, ISl.nil, ISSl.nil, .inl rfl⟩
theorem kidOf4 (w : World) : Calls Try.prog 88 #[.int .i64 4] w fun e w' => e = .returned (.int .i64 1) ∧ w' = w := by
  go_enter Try.func88, Try.ntmps88
  go_wp2
  go_ret
  exact ⟨rfl, rfl⟩
theorem kidOf5 (w : World) : Calls Try.prog 88 #[.int .i64 5] w fun e w' => e = .returned (.int .i64 2) ∧ w' = w := by
  go_enter Try.func88, Try.ntmps88
  go_wp2
  go_ret
  exact ⟨rfl, rfl⟩
theorem kidOf6 (w : World) : Calls Try.prog 88 #[.int .i64 6] w fun e w' => e = .returned (.int .i64 3) ∧ w' = w := by
  go_enter Try.func88, Try.ntmps88
  go_wp2
  go_ret
  exact ⟨rfl, rfl⟩

set_option maxRecDepth 100000 in
set_option maxHeartbeats 8000000 in
/-- a part of a polygon, a multi point or a multi line string *)-/
theorem part2_calls (k l r : Int) (kk : Int) (A1 A2 A3 A4 : Option Addr) (n1 c1 n2 c2 n3 c3 n4 c4 : Nat) (s i : Nat) (ii : Int) (hii : ii = i) (segs : List (List (List Nat))) (rows : List (List Nat)) (w : World) (hk : k = 3 ∨ k = 4 ∨ k = 5) (hkk : kk = if k = 3 then 8 else k - 3)
    (hu : FSl (.slice A1 n1 c1) (fwd segs) w) (hE : EndR A2 (cum s 0 segs) w) (hn2 : n2 = segs.length) (hr : ∀ rows ∈ segs, ∀ r ∈ rows, r.length = s) (hi : segs[i]? = some rows) (hn1 : n1 ≤ 17592186044416) (hsl : segs.length ≤ 17592186044416) :
    Calls Try.prog 67 #[Geo7 k l r A1 n1 c1 A2 n2 c2 A3 n3 c3 A4 n4 c4, .int .i64 ii] w (PartQ (.mk kk l 0 rows.flatten [] [] []) w) := by
  obtain ⟨i0, hi0, hz0, hz1, hz2⟩ := info_parts infoFp
  have HI := Lib.hid hi0; have HZ0 := Lib.hid hz0; have HZ1 := Lib.hid hz1; have HZ2 := Lib.hid hz2; clear hi0 hz0 hz1 hz2
  have hil := (List.getElem?_eq_some_iff.1 hi).1
  have hu0 := hu
  have hn1e : n1 = (fwd segs).length := by obtain ⟨A', c', he, -, -⟩ := hu; simp only [Value.slice.injEq] at he; exact he.2.1
  rw [seg_flat hi] at hu
  obtain ⟨A', c', hM, hcut⟩ := fcut (P := Try.prog) undR0 HI.out HZ1.out hu
  obtain ⟨X, hX⟩ : ∃ X, X = (fwd (segs.take i)).length := ⟨_, rfl⟩
  obtain ⟨Y, hY⟩ : ∃ Y, Y = X + rows.flatten.length := ⟨_, rfl⟩
  have hend := cum_at (o := 0) hr hi
  rw [Nat.zero_add, ← flat_len (hr rows (List.mem_of_getElem? hi)), ← hX, ← hY] at hend
  have hprev : 0 < i → (cum s 0 segs)[i - 1]? = some X := fun h0 => by
    obtain ⟨rows', hi'⟩ : ∃ p, segs[i - 1]? = some p := ⟨segs[i - 1]'(by omega), by simp [show i - 1 < segs.length by omega]⟩
    rw [cum_at (o := 0) hr hi', Nat.zero_add, ← flat_len (hr rows' (List.mem_of_getElem? hi')), ← List.length_append, ← fwd_snoc hi', show i - 1 + 1 = i by omega, hX]
  rcases hE with h0 | ⟨be, oe, rfl, hce⟩
  · exfalso; have := congrArg List.length h0; rw [cum_len, List.length_nil] at this; omega
  have hYn : Y ≤ n1 := by
    have h1 := congrArg List.length (seg_flat hi)
    simp only [List.length_append] at h1
    omega
  have hcy := hce i Y hend
  have hbe : be < w.heap.size := cell_ltH hcy
  have hcut' : ∀ (w' : World), (Instr.slice 22 (.slice A1 n1 c1) (some (.int .i64 X)) (some (.int .i64 Y)) none).run Try.prog w' = .ok (.slice A' rows.flatten.length c') w' := fun w' => by rw [hX]; exact hcut w' .i64 .i64 Y (by rw [hY, hX]; omega)
  have HX0 := Lib.hid (show i = 0 → X = 0 by intro h; rw [hX, h]; rfl)
  have HM := Lib.hid hM; have HCE := Lib.hid hce; have HP := Lib.hid hprev
  have hrl : rows.flatten.length ≤ 17592186044416 := by omega
  have hin : (i : Int) < (n2 : Int) := by omega
  clear hu hu0 hend hcut hM hr hprev hX hY hn1e hce
  subst hn2
  have hb0 : be < w.heap.size + 1 := by omega
  have hb1 : be < w.heap.size + 2 := by omega
  have HW2 := Lib.hid ((((Grow.refl w).alloc (Obj.cells #[.int .i64 k, .int .i64 l, .int .i64 r, .slice A1 n1 c1, .slice (some ⟨be, oe, none⟩) segs.length c2, .slice A3 n3 c3, .slice A4 n4 c4] 28)).alloc (Obj.cells #[.int .i64 0, .int .i64 0, .int .i64 0, .slice none 0 0, .slice none 0 0, .slice none 0 0, .slice none 0 0] 28)))
  have hps : 0 < segs.length := by omega
  clear hi hil
  generalize rows.flatten = M at *
  rcases hk with rfl | rfl | rfl
  · by_cases h0 : i = 0
    case pos =>
      have hkk' : kk = 8 := by rw [hkk]; rfl
      subst hkk'
      clear hkk
      subst h0
      have hX0 : X = 0 := HX0.out rfl
      subst hX0
      obtain rfl : ii = 0 := hii
      have hcut0 : ∀ (w' : World), (Instr.slice 22 (.slice A1 n1 c1) (some (.int .i64 0)) (some (.int .i64 Y)) none).run Try.prog w' = .ok (.slice A' M.length c') w' := hcut'
      have hcy0 : w.cell? ⟨be, oe, none⟩ = some (.int .i64 Y) := hcy
      have hin0 : (0 : Int) < (segs.length : Int) := hin
      clear hcut' hcy hin
      go_enter Try.func67, Try.ntmps67
      go_wp2
      refine wp_region_grow_tail 14 (fun i => if i = 3 then some (fun _ _ V ww => NewE V ww) else if i = 13 then some (fun lo hi V ww => FlP (w.heap.size + 2) M lo hi V ww) else none) (by kernel_rfl) (by kernel_rfl) ?_ ?_
      · intro i Φ h lo hi v
        (repeat' split at h) <;> cases h
        · exact NewE.up
        · exact FlP.up
      simp only [List.take_succ_cons, List.take_zero, List.drop_succ_cons, List.drop_zero]
      repeat (first
        | (refine wpGrow_skip (by rfl) ?_; simp only [Act.put, List.setIfInBounds_toArray, List.set_cons_zero, List.set_cons_succ, Nat.reduceAdd])
        | (refine wpGrow_det' (by rfl) (by rfl) ?_; apply Exists.intro; refine ⟨fun w' hc hh => ?_, ?_⟩; (have hcell := grow_cell hc; clear hc hh; go_simp; rfl); simp only [Act.put, List.setIfInBounds_toArray, List.set_cons_zero, List.set_cons_succ, Nat.reduceAdd]))
      refine wpGrow_eff' (by rfl) (by rfl) (fun w' hc hh => ?_) (fun v lo hi w' hap hc hh hv => ?_)
      · clear hc hh
        go_simp
        exact EffVal.mk ((Grow.refl _).alloc _) ⟨_, rfl⟩
      obtain ⟨h94, rfl⟩ := hv
      clear hc hh hap w'
      simp only [Act.put, List.setIfInBounds_toArray, List.set_cons_zero, List.set_cons_succ, Nat.reduceAdd]
      repeat (first
        | (refine wpGrow_skip (by rfl) ?_; simp only [Act.put, List.setIfInBounds_toArray, List.set_cons_zero, List.set_cons_succ, Nat.reduceAdd])
        | (refine wpGrow_det' (by rfl) (by rfl) ?_; apply Exists.intro; refine ⟨fun w' hc hh => ?_, ?_⟩; (have hcell := grow_cell hc; clear hc hh; go_simp; rfl); simp only [Act.put, List.setIfInBounds_toArray, List.set_cons_zero, List.set_cons_succ, Nat.reduceAdd]))
      refine wpGrow_eff' (by rfl) (by rfl) (fun w' hc hh => ?_) (fun v lo hi w' hap hc hh hv => ?_)
      · have HSZ := Lib.hid hc.size
        have HMW := Lib.hid (FSl.up _ _ HM.out (HW2.out.trans hc))
        clear hc hh
        obtain ⟨v', w2, hrun, hg2, hst2⟩ := run_append_fresh (P := Try.prog) (w := w') 22 22 42 i0 (.float .f64 0) 8 undR0 HI.out HZ0.out HZ1.out HZ2.out rfl h94 HMW.out.v (by simp; omega) (by simp; omega)
        simp [execOp, resolve, invoke, builtin, Sem.run_bind, Sem.run_pure, Act.eval, hrun]
        exact EffVal.mk hg2 ⟨by simpa using HSZ.out, Nat.le_refl _, hst2⟩
      obtain ⟨A9, c9, rfl⟩ := vslForm hv.2.2.now
      clear hv
      clear hc hh hap w'
      simp only [Act.put, List.setIfInBounds_toArray, List.set_cons_zero, List.set_cons_succ, Nat.reduceAdd]
      repeat (first
        | (refine wpGrow_skip (by rfl) ?_; simp only [Act.put, List.setIfInBounds_toArray, List.set_cons_zero, List.set_cons_succ, Nat.reduceAdd])
        | (refine wpGrow_det' (by rfl) (by rfl) ?_; apply Exists.intro; refine ⟨fun w' hc hh => ?_, ?_⟩; (have hcell := grow_cell hc; clear hc hh; go_simp; rfl); simp only [Act.put, List.setIfInBounds_toArray, List.set_cons_zero, List.set_cons_succ, Nat.reduceAdd]))
      refine wpGrow_nil ?_
      intro w1 hg hh
      obtain ⟨lo9, hi9, hfp⟩ : ∃ lo hi, FlP (w.heap.size + 2) M lo hi (.slice A9 M.length c9) w1 := by have h : FlP (w.heap.size + 2) M _ _ (.slice A9 (M.map (Value.float .f64)).length c9) w1 := (hh 13).1; rw [List.length_map] at h; exact ⟨_, _, h⟩
      have HFP := Lib.hid hfp
      clear hfp
      have r0 := up_cell (a := ⟨w.heap.size + 1, 0, none⟩) (v := .int .i64 0) (by go_simp) hg
      have r1 := up_cell (a := ⟨w.heap.size + 1, 1, none⟩) (v := .int .i64 0) (by go_simp) hg
      have r2 := up_cell (a := ⟨w.heap.size + 1, 2, none⟩) (v := .int .i64 0) (by go_simp) hg
      have r3 := up_cell (a := ⟨w.heap.size + 1, 3, none⟩) (v := .slice none 0 0) (by go_simp) hg
      have r4 := up_cell (a := ⟨w.heap.size + 1, 4, none⟩) (v := .slice none 0 0) (by go_simp) hg
      have r5 := up_cell (a := ⟨w.heap.size + 1, 5, none⟩) (v := .slice none 0 0) (by go_simp) hg
      have r6 := up_cell (a := ⟨w.heap.size + 1, 6, none⟩) (v := .slice none 0 0) (by go_simp) hg
      have f1 : ∀ o, w1.frozen? ⟨w.heap.size + 1, o, none⟩ = false := fun o => (grow_frozen hg _ _ (by simp <;> omega)).trans (by go_simp)
      have HG := Lib.hid (HW2.out.trans hg)
      clear hh hg
      go_wp2
      refine bodyPost_ret (v := GeoF 8 l 0 (.slice A9 M.length c9) (.slice none 0 0) (.slice none 0 0) (.slice none 0 0)) (by simp [results, Try.results67, go_sem, r0, r1, r2, r3, r4, r5, r6]) rfl ⟨_, rfl, (((((((HG.out).setCell (by simp) _).setCell (by simp) _).setCell (by simp) _).setCell (by simp) _).setCell (by simp) _).setCell (by simp) _).setCell (by simp) _, fun w2 hw => GV.part ((HFP.out.2.2.move fun q k1 k2 => ?_).now)⟩
      have hB := HFP.out.1; have hH := HFP.out.2.1
      rw [hw q (by omega) (by simp [World.setCell]; omega)]
      have hne : w.heap.size + 1 ≠ q := by omega
      have hne' : q ≠ w.heap.size + 1 := by omega
      iterate 7 rw [Below.heap_setCell _ _ _ _ (by first | exact hne | exact hne')]
    case neg =>
      have hkk' : kk = 8 := by rw [hkk]; rfl
      subst hkk'
      clear hkk
      obtain ⟨m, hm⟩ : ∃ m, i = m + 1 := ⟨i - 1, by omega⟩
      have hpc := HCE.out (i - 1) X (HP.out (by omega))
      rw [show i - 1 = m by omega] at hpc
      have hbe3 : be < w.heap.size := cell_ltH hpc
      have hm1 : IntKind.i64.wrap ((i : Int) - 1) = (m : Int) := by rw [hm]; exact (wrapM (by omega) (by omega)).trans (by omega)
      have hm2 : (i : Int) - 1 = (m : Int) := by omega
      have hm3 : (m : Int) < (segs.length : Int) := by omega
      have hi0 : (0 : Int) < (i : Int) := by omega
      have hi1 : 0 < i := by omega
      clear hm h0
      subst hii
      go_enter Try.func67, Try.ntmps67
      go_wp2
      refine wp_region_grow_tail 14 (fun i => if i = 3 then some (fun _ _ V ww => NewE V ww) else if i = 13 then some (fun lo hi V ww => FlP (w.heap.size + 2) M lo hi V ww) else none) (by kernel_rfl) (by kernel_rfl) ?_ ?_
      · intro i Φ h lo hi v
        (repeat' split at h) <;> cases h
        · exact NewE.up
        · exact FlP.up
      simp only [List.take_succ_cons, List.take_zero, List.drop_succ_cons, List.drop_zero]
      repeat (first
        | (refine wpGrow_skip (by rfl) ?_; simp only [Act.put, List.setIfInBounds_toArray, List.set_cons_zero, List.set_cons_succ, Nat.reduceAdd])
        | (refine wpGrow_det' (by rfl) (by rfl) ?_; apply Exists.intro; refine ⟨fun w' hc hh => ?_, ?_⟩; (have hcell := grow_cell hc; clear hc hh; go_simp; rfl); simp only [Act.put, List.setIfInBounds_toArray, List.set_cons_zero, List.set_cons_succ, Nat.reduceAdd]))
      refine wpGrow_eff' (by rfl) (by rfl) (fun w' hc hh => ?_) (fun v lo hi w' hap hc hh hv => ?_)
      · clear hc hh
        go_simp
        exact EffVal.mk ((Grow.refl _).alloc _) ⟨_, rfl⟩
      obtain ⟨h94, rfl⟩ := hv
      clear hc hh hap w'
      simp only [Act.put, List.setIfInBounds_toArray, List.set_cons_zero, List.set_cons_succ, Nat.reduceAdd]
      repeat (first
        | (refine wpGrow_skip (by rfl) ?_; simp only [Act.put, List.setIfInBounds_toArray, List.set_cons_zero, List.set_cons_succ, Nat.reduceAdd])
        | (refine wpGrow_det' (by rfl) (by rfl) ?_; apply Exists.intro; refine ⟨fun w' hc hh => ?_, ?_⟩; (have hcell := grow_cell hc; clear hc hh; go_simp; rfl); simp only [Act.put, List.setIfInBounds_toArray, List.set_cons_zero, List.set_cons_succ, Nat.reduceAdd]))
      refine wpGrow_eff' (by rfl) (by rfl) (fun w' hc hh => ?_) (fun v lo hi w' hap hc hh hv => ?_)
      · have HSZ := Lib.hid hc.size
        have HMW := Lib.hid (FSl.up _ _ HM.out (HW2.out.trans hc))
        clear hc hh
        obtain ⟨v', w2, hrun, hg2, hst2⟩ := run_append_fresh (P := Try.prog) (w := w') 22 22 42 i0 (.float .f64 0) 8 undR0 HI.out HZ0.out HZ1.out HZ2.out rfl h94 HMW.out.v (by simp; omega) (by simp; omega)
        simp [execOp, resolve, invoke, builtin, Sem.run_bind, Sem.run_pure, Act.eval, hrun]
        exact EffVal.mk hg2 ⟨by simpa using HSZ.out, Nat.le_refl _, hst2⟩
      obtain ⟨A9, c9, rfl⟩ := vslForm hv.2.2.now
      clear hv
      clear hc hh hap w'
      simp only [Act.put, List.setIfInBounds_toArray, List.set_cons_zero, List.set_cons_succ, Nat.reduceAdd]
      repeat (first
        | (refine wpGrow_skip (by rfl) ?_; simp only [Act.put, List.setIfInBounds_toArray, List.set_cons_zero, List.set_cons_succ, Nat.reduceAdd])
        | (refine wpGrow_det' (by rfl) (by rfl) ?_; apply Exists.intro; refine ⟨fun w' hc hh => ?_, ?_⟩; (have hcell := grow_cell hc; clear hc hh; go_simp; rfl); simp only [Act.put, List.setIfInBounds_toArray, List.set_cons_zero, List.set_cons_succ, Nat.reduceAdd]))
      refine wpGrow_nil ?_
      intro w1 hg hh
      obtain ⟨lo9, hi9, hfp⟩ : ∃ lo hi, FlP (w.heap.size + 2) M lo hi (.slice A9 M.length c9) w1 := by have h : FlP (w.heap.size + 2) M _ _ (.slice A9 (M.map (Value.float .f64)).length c9) w1 := (hh 13).1; rw [List.length_map] at h; exact ⟨_, _, h⟩
      have HFP := Lib.hid hfp
      clear hfp
      have r0 := up_cell (a := ⟨w.heap.size + 1, 0, none⟩) (v := .int .i64 0) (by go_simp) hg
      have r1 := up_cell (a := ⟨w.heap.size + 1, 1, none⟩) (v := .int .i64 0) (by go_simp) hg
      have r2 := up_cell (a := ⟨w.heap.size + 1, 2, none⟩) (v := .int .i64 0) (by go_simp) hg
      have r3 := up_cell (a := ⟨w.heap.size + 1, 3, none⟩) (v := .slice none 0 0) (by go_simp) hg
      have r4 := up_cell (a := ⟨w.heap.size + 1, 4, none⟩) (v := .slice none 0 0) (by go_simp) hg
      have r5 := up_cell (a := ⟨w.heap.size + 1, 5, none⟩) (v := .slice none 0 0) (by go_simp) hg
      have r6 := up_cell (a := ⟨w.heap.size + 1, 6, none⟩) (v := .slice none 0 0) (by go_simp) hg
      have f1 : ∀ o, w1.frozen? ⟨w.heap.size + 1, o, none⟩ = false := fun o => (grow_frozen hg _ _ (by simp <;> omega)).trans (by go_simp)
      have HG := Lib.hid (HW2.out.trans hg)
      clear hh hg
      go_wp2
      refine bodyPost_ret (v := GeoF 8 l 0 (.slice A9 M.length c9) (.slice none 0 0) (.slice none 0 0) (.slice none 0 0)) (by simp [results, Try.results67, go_sem, r0, r1, r2, r3, r4, r5, r6]) rfl ⟨_, rfl, (((((((HG.out).setCell (by simp) _).setCell (by simp) _).setCell (by simp) _).setCell (by simp) _).setCell (by simp) _).setCell (by simp) _).setCell (by simp) _, fun w2 hw => GV.part ((HFP.out.2.2.move fun q k1 k2 => ?_).now)⟩
      have hB := HFP.out.1; have hH := HFP.out.2.1
      rw [hw q (by omega) (by simp [World.setCell]; omega)]
      have hne : w.heap.size + 1 ≠ q := by omega
      have hne' : q ≠ w.heap.size + 1 := by omega
      iterate 7 rw [Below.heap_setCell _ _ _ _ (by first | exact hne | exact hne')]
  · by_cases h0 : i = 0
    case pos =>
      have hkk' : kk = 1 := by rw [hkk]; rfl
      subst hkk'
      clear hkk
      subst h0
      have hX0 : X = 0 := HX0.out rfl
      subst hX0
      obtain rfl : ii = 0 := hii
      have hcut0 : ∀ (w' : World), (Instr.slice 22 (.slice A1 n1 c1) (some (.int .i64 0)) (some (.int .i64 Y)) none).run Try.prog w' = .ok (.slice A' M.length c') w' := hcut'
      have hcy0 : w.cell? ⟨be, oe, none⟩ = some (.int .i64 Y) := hcy
      have hin0 : (0 : Int) < (segs.length : Int) := hin
      clear hcut' hcy hin
      go_enter Try.func67, Try.ntmps67
      go_wp2_with (go_at_call 88; refine (kidOf4 _).mono ?_; rintro e w' ⟨rfl, rfl⟩)
      refine wp_region_grow_tail 14 (fun i => if i = 3 then some (fun _ _ V ww => NewE V ww) else if i = 13 then some (fun lo hi V ww => FlP (w.heap.size + 2) M lo hi V ww) else none) (by kernel_rfl) (by kernel_rfl) ?_ ?_
      · intro i Φ h lo hi v
        (repeat' split at h) <;> cases h
        · exact NewE.up
        · exact FlP.up
      simp only [List.take_succ_cons, List.take_zero, List.drop_succ_cons, List.drop_zero]
      repeat (first
        | (refine wpGrow_skip (by rfl) ?_; simp only [Act.put, List.setIfInBounds_toArray, List.set_cons_zero, List.set_cons_succ, Nat.reduceAdd])
        | (refine wpGrow_det' (by rfl) (by rfl) ?_; apply Exists.intro; refine ⟨fun w' hc hh => ?_, ?_⟩; (have hcell := grow_cell hc; clear hc hh; go_simp; rfl); simp only [Act.put, List.setIfInBounds_toArray, List.set_cons_zero, List.set_cons_succ, Nat.reduceAdd]))
      refine wpGrow_eff' (by rfl) (by rfl) (fun w' hc hh => ?_) (fun v lo hi w' hap hc hh hv => ?_)
      · clear hc hh
        go_simp
        exact EffVal.mk ((Grow.refl _).alloc _) ⟨_, rfl⟩
      obtain ⟨h94, rfl⟩ := hv
      clear hc hh hap w'
      simp only [Act.put, List.setIfInBounds_toArray, List.set_cons_zero, List.set_cons_succ, Nat.reduceAdd]
      repeat (first
        | (refine wpGrow_skip (by rfl) ?_; simp only [Act.put, List.setIfInBounds_toArray, List.set_cons_zero, List.set_cons_succ, Nat.reduceAdd])
        | (refine wpGrow_det' (by rfl) (by rfl) ?_; apply Exists.intro; refine ⟨fun w' hc hh => ?_, ?_⟩; (have hcell := grow_cell hc; clear hc hh; go_simp; rfl); simp only [Act.put, List.setIfInBounds_toArray, List.set_cons_zero, List.set_cons_succ, Nat.reduceAdd]))
      refine wpGrow_eff' (by rfl) (by rfl) (fun w' hc hh => ?_) (fun v lo hi w' hap hc hh hv => ?_)
      · have HSZ := Lib.hid hc.size
        have HMW := Lib.hid (FSl.up _ _ HM.out (HW2.out.trans hc))
        clear hc hh
        obtain ⟨v', w2, hrun, hg2, hst2⟩ := run_append_fresh (P := Try.prog) (w := w') 22 22 42 i0 (.float .f64 0) 8 undR0 HI.out HZ0.out HZ1.out HZ2.out rfl h94 HMW.out.v (by simp; omega) (by simp; omega)
        simp [execOp, resolve, invoke, builtin, Sem.run_bind, Sem.run_pure, Act.eval, hrun]
        exact EffVal.mk hg2 ⟨by simpa using HSZ.out, Nat.le_refl _, hst2⟩
      obtain ⟨A9, c9, rfl⟩ := vslForm hv.2.2.now
      clear hv
      clear hc hh hap w'
      simp only [Act.put, List.setIfInBounds_toArray, List.set_cons_zero, List.set_cons_succ, Nat.reduceAdd]
      repeat (first
        | (refine wpGrow_skip (by rfl) ?_; simp only [Act.put, List.setIfInBounds_toArray, List.set_cons_zero, List.set_cons_succ, Nat.reduceAdd])
        | (refine wpGrow_det' (by rfl) (by rfl) ?_; apply Exists.intro; refine ⟨fun w' hc hh => ?_, ?_⟩; (have hcell := grow_cell hc; clear hc hh; go_simp; rfl); simp only [Act.put, List.setIfInBounds_toArray, List.set_cons_zero, List.set_cons_succ, Nat.reduceAdd]))
      refine wpGrow_nil ?_
      intro w1 hg hh
      obtain ⟨lo9, hi9, hfp⟩ : ∃ lo hi, FlP (w.heap.size + 2) M lo hi (.slice A9 M.length c9) w1 := by have h : FlP (w.heap.size + 2) M _ _ (.slice A9 (M.map (Value.float .f64)).length c9) w1 := (hh 13).1; rw [List.length_map] at h; exact ⟨_, _, h⟩
      have HFP := Lib.hid hfp
      clear hfp
      have r0 := up_cell (a := ⟨w.heap.size + 1, 0, none⟩) (v := .int .i64 0) (by go_simp) hg
      have r1 := up_cell (a := ⟨w.heap.size + 1, 1, none⟩) (v := .int .i64 0) (by go_simp) hg
      have r2 := up_cell (a := ⟨w.heap.size + 1, 2, none⟩) (v := .int .i64 0) (by go_simp) hg
      have r3 := up_cell (a := ⟨w.heap.size + 1, 3, none⟩) (v := .slice none 0 0) (by go_simp) hg
      have r4 := up_cell (a := ⟨w.heap.size + 1, 4, none⟩) (v := .slice none 0 0) (by go_simp) hg
      have r5 := up_cell (a := ⟨w.heap.size + 1, 5, none⟩) (v := .slice none 0 0) (by go_simp) hg
      have r6 := up_cell (a := ⟨w.heap.size + 1, 6, none⟩) (v := .slice none 0 0) (by go_simp) hg
      have f1 : ∀ o, w1.frozen? ⟨w.heap.size + 1, o, none⟩ = false := fun o => (grow_frozen hg _ _ (by simp <;> omega)).trans (by go_simp)
      have HG := Lib.hid (HW2.out.trans hg)
      clear hh hg
      go_wp2
      refine bodyPost_ret (v := GeoF 1 l 0 (.slice A9 M.length c9) (.slice none 0 0) (.slice none 0 0) (.slice none 0 0)) (by simp [results, Try.results67, go_sem, r0, r1, r2, r3, r4, r5, r6]) rfl ⟨_, rfl, (((((((HG.out).setCell (by simp) _).setCell (by simp) _).setCell (by simp) _).setCell (by simp) _).setCell (by simp) _).setCell (by simp) _).setCell (by simp) _, fun w2 hw => GV.part ((HFP.out.2.2.move fun q k1 k2 => ?_).now)⟩
      have hB := HFP.out.1; have hH := HFP.out.2.1
      rw [hw q (by omega) (by simp [World.setCell]; omega)]
      have hne : w.heap.size + 1 ≠ q := by omega
      have hne' : q ≠ w.heap.size + 1 := by omega
      iterate 7 rw [Below.heap_setCell _ _ _ _ (by first | exact hne | exact hne')]
    case neg =>
      have hkk' : kk = 1 := by rw [hkk]; rfl
      subst hkk'
      clear hkk
      obtain ⟨m, hm⟩ : ∃ m, i = m + 1 := ⟨i - 1, by omega⟩
      have hpc := HCE.out (i - 1) X (HP.out (by omega))
      rw [show i - 1 = m by omega] at hpc
      have hbe3 : be < w.heap.size := cell_ltH hpc
      have hm1 : IntKind.i64.wrap ((i : Int) - 1) = (m : Int) := by rw [hm]; exact (wrapM (by omega) (by omega)).trans (by omega)
      have hm2 : (i : Int) - 1 = (m : Int) := by omega
      have hm3 : (m : Int) < (segs.length : Int) := by omega
      have hi0 : (0 : Int) < (i : Int) := by omega
      have hi1 : 0 < i := by omega
      clear hm h0
      subst hii
      go_enter Try.func67, Try.ntmps67
      go_wp2_with (go_at_call 88; refine (kidOf4 _).mono ?_; rintro e w' ⟨rfl, rfl⟩)
      refine wp_region_grow_tail 14 (fun i => if i = 3 then some (fun _ _ V ww => NewE V ww) else if i = 13 then some (fun lo hi V ww => FlP (w.heap.size + 2) M lo hi V ww) else none) (by kernel_rfl) (by kernel_rfl) ?_ ?_
      · intro i Φ h lo hi v
        (repeat' split at h) <;> cases h
        · exact NewE.up
        · exact FlP.up
      simp only [List.take_succ_cons, List.take_zero, List.drop_succ_cons, List.drop_zero]
      repeat (first
        | (refine wpGrow_skip (by rfl) ?_; simp only [Act.put, List.setIfInBounds_toArray, List.set_cons_zero, List.set_cons_succ, Nat.reduceAdd])
        | (refine wpGrow_det' (by rfl) (by rfl) ?_; apply Exists.intro; refine ⟨fun w' hc hh => ?_, ?_⟩; (have hcell := grow_cell hc; clear hc hh; go_simp; rfl); simp only [Act.put, List.setIfInBounds_toArray, List.set_cons_zero, List.set_cons_succ, Nat.reduceAdd]))
      refine wpGrow_eff' (by rfl) (by rfl) (fun w' hc hh => ?_) (fun v lo hi w' hap hc hh hv => ?_)
      · clear hc hh
        go_simp
        exact EffVal.mk ((Grow.refl _).alloc _) ⟨_, rfl⟩
      obtain ⟨h94, rfl⟩ := hv
      clear hc hh hap w'
      simp only [Act.put, List.setIfInBounds_toArray, List.set_cons_zero, List.set_cons_succ, Nat.reduceAdd]
      repeat (first
        | (refine wpGrow_skip (by rfl) ?_; simp only [Act.put, List.setIfInBounds_toArray, List.set_cons_zero, List.set_cons_succ, Nat.reduceAdd])
        | (refine wpGrow_det' (by rfl) (by rfl) ?_; apply Exists.intro; refine ⟨fun w' hc hh => ?_, ?_⟩; (have hcell := grow_cell hc; clear hc hh; go_simp; rfl); simp only [Act.put, List.setIfInBounds_toArray, List.set_cons_zero, List.set_cons_succ, Nat.reduceAdd]))
      refine wpGrow_eff' (by rfl) (by rfl) (fun w' hc hh => ?_) (fun v lo hi w' hap hc hh hv => ?_)
      · have HSZ := Lib.hid hc.size
        have HMW := Lib.hid (FSl.up _ _ HM.out (HW2.out.trans hc))
        clear hc hh
        obtain ⟨v', w2, hrun, hg2, hst2⟩ := run_append_fresh (P := Try.prog) (w := w') 22 22 42 i0 (.float .f64 0) 8 undR0 HI.out HZ0.out HZ1.out HZ2.out rfl h94 HMW.out.v (by simp; omega) (by simp; omega)
        simp [execOp, resolve, invoke, builtin, Sem.run_bind, Sem.run_pure, Act.eval, hrun]
        exact EffVal.mk hg2 ⟨by simpa using HSZ.out, Nat.le_refl _, hst2⟩
      obtain ⟨A9, c9, rfl⟩ := vslForm hv.2.2.now
      clear hv
      clear hc hh hap w'
      simp only [Act.put, List.setIfInBounds_toArray, List.set_cons_zero, List.set_cons_succ, Nat.reduceAdd]
      repeat (first
        | (refine wpGrow_skip (by rfl) ?_; simp only [Act.put, List.setIfInBounds_toArray, List.set_cons_zero, List.set_cons_succ, Nat.reduceAdd])
        | (refine wpGrow_det' (by rfl) (by rfl) ?_; apply Exists.intro; refine ⟨fun w' hc hh => ?_, ?_⟩; (have hcell := grow_cell hc; clear hc hh; go_simp; rfl); simp only [Act.put, List.setIfInBounds_toArray, List.set_cons_zero, List.set_cons_succ, Nat.reduceAdd]))
      refine wpGrow_nil ?_
      intro w1 hg hh
      obtain ⟨lo9, hi9, hfp⟩ : ∃ lo hi, FlP (w.heap.size + 2) M lo hi (.slice A9 M.length c9) w1 := by have h : FlP (w.heap.size + 2) M _ _ (.slice A9 (M.map (Value.float .f64)).length c9) w1 := (hh 13).1; rw [List.length_map] at h; exact ⟨_, _, h⟩
      have HFP := Lib.hid hfp
      clear hfp
      have r0 := up_cell (a := ⟨w.heap.size + 1, 0, none⟩) (v := .int .i64 0) (by go_simp) hg
      have r1 := up_cell (a := ⟨w.heap.size + 1, 1, none⟩) (v := .int .i64 0) (by go_simp) hg
      have r2 := up_cell (a := ⟨w.heap.size + 1, 2, none⟩) (v := .int .i64 0) (by go_simp) hg
      have r3 := up_cell (a := ⟨w.heap.size + 1, 3, none⟩) (v := .slice none 0 0) (by go_simp) hg
      have r4 := up_cell (a := ⟨w.heap.size + 1, 4, none⟩) (v := .slice none 0 0) (by go_simp) hg
      have r5 := up_cell (a := ⟨w.heap.size + 1, 5, none⟩) (v := .slice none 0 0) (by go_simp) hg
      have r6 := up_cell (a := ⟨w.heap.size + 1, 6, none⟩) (v := .slice none 0 0) (by go_simp) hg
      have f1 : ∀ o, w1.frozen? ⟨w.heap.size + 1, o, none⟩ = false := fun o => (grow_frozen hg _ _ (by simp <;> omega)).trans (by go_simp)
      have HG := Lib.hid (HW2.out.trans hg)
      clear hh hg
      go_wp2
      refine bodyPost_ret (v := GeoF 1 l 0 (.slice A9 M.length c9) (.slice none 0 0) (.slice none 0 0) (.slice none 0 0)) (by simp [results, Try.results67, go_sem, r0, r1, r2, r3, r4, r5, r6]) rfl ⟨_, rfl, (((((((HG.out).setCell (by simp) _).setCell (by simp) _).setCell (by simp) _).setCell (by simp) _).setCell (by simp) _).setCell (by simp) _).setCell (by simp) _, fun w2 hw => GV.part ((HFP.out.2.2.move fun q k1 k2 => ?_).now)⟩
      have hB := HFP.out.1; have hH := HFP.out.2.1
      rw [hw q (by omega) (by simp [World.setCell]; omega)]
      have hne : w.heap.size + 1 ≠ q := by omega
      have hne' : q ≠ w.heap.size + 1 := by omega
      iterate 7 rw [Below.heap_setCell _ _ _ _ (by first | exact hne | exact hne')]
  · by_cases h0 : i = 0
    case pos =>
      have hkk' : kk = 2 := by rw [hkk]; rfl
      subst hkk'
      clear hkk
      subst h0
      have hX0 : X = 0 := HX0.out rfl
      subst hX0
      obtain rfl : ii = 0 := hii
      have hcut0 : ∀ (w' : World), (Instr.slice 22 (.slice A1 n1 c1) (some (.int .i64 0)) (some (.int .i64 Y)) none).run Try.prog w' = .ok (.slice A' M.length c') w' := hcut'
      have hcy0 : w.cell? ⟨be, oe, none⟩ = some (.int .i64 Y) := hcy
      have hin0 : (0 : Int) < (segs.length : Int) := hin
      clear hcut' hcy hin
      go_enter Try.func67, Try.ntmps67
      go_wp2_with (go_at_call 88; refine (kidOf5 _).mono ?_; rintro e w' ⟨rfl, rfl⟩)
      refine wp_region_grow_tail 14 (fun i => if i = 3 then some (fun _ _ V ww => NewE V ww) else if i = 13 then some (fun lo hi V ww => FlP (w.heap.size + 2) M lo hi V ww) else none) (by kernel_rfl) (by kernel_rfl) ?_ ?_
      · intro i Φ h lo hi v
        (repeat' split at h) <;> cases h
        · exact NewE.up
        · exact FlP.up
      simp only [List.take_succ_cons, List.take_zero, List.drop_succ_cons, List.drop_zero]
      repeat (first
        | (refine wpGrow_skip (by rfl) ?_; simp only [Act.put, List.setIfInBounds_toArray, List.set_cons_zero, List.set_cons_succ, Nat.reduceAdd])
        | (refine wpGrow_det' (by rfl) (by rfl) ?_; apply Exists.intro; refine ⟨fun w' hc hh => ?_, ?_⟩; (have hcell := grow_cell hc; clear hc hh; go_simp; rfl); simp only [Act.put, List.setIfInBounds_toArray, List.set_cons_zero, List.set_cons_succ, Nat.reduceAdd]))
      refine wpGrow_eff' (by rfl) (by rfl) (fun w' hc hh => ?_) (fun v lo hi w' hap hc hh hv => ?_)
      · clear hc hh
        go_simp
        exact EffVal.mk ((Grow.refl _).alloc _) ⟨_, rfl⟩
      obtain ⟨h94, rfl⟩ := hv
      clear hc hh hap w'
      simp only [Act.put, List.setIfInBounds_toArray, List.set_cons_zero, List.set_cons_succ, Nat.reduceAdd]
      repeat (first
        | (refine wpGrow_skip (by rfl) ?_; simp only [Act.put, List.setIfInBounds_toArray, List.set_cons_zero, List.set_cons_succ, Nat.reduceAdd])
        | (refine wpGrow_det' (by rfl) (by rfl) ?_; apply Exists.intro; refine ⟨fun w' hc hh => ?_, ?_⟩; (have hcell := grow_cell hc; clear hc hh; go_simp; rfl); simp only [Act.put, List.setIfInBounds_toArray, List.set_cons_zero, List.set_cons_succ, Nat.reduceAdd]))
      refine wpGrow_eff' (by rfl) (by rfl) (fun w' hc hh => ?_) (fun v lo hi w' hap hc hh hv => ?_)
      · have HSZ := Lib.hid hc.size
        have HMW := Lib.hid (FSl.up _ _ HM.out (HW2.out.trans hc))
        clear hc hh
        obtain ⟨v', w2, hrun, hg2, hst2⟩ := run_append_fresh (P := Try.prog) (w := w') 22 22 42 i0 (.float .f64 0) 8 undR0 HI.out HZ0.out HZ1.out HZ2.out rfl h94 HMW.out.v (by simp; omega) (by simp; omega)
        simp [execOp, resolve, invoke, builtin, Sem.run_bind, Sem.run_pure, Act.eval, hrun]
        exact EffVal.mk hg2 ⟨by simpa using HSZ.out, Nat.le_refl _, hst2⟩
      obtain ⟨A9, c9, rfl⟩ := vslForm hv.2.2.now
      clear hv
      clear hc hh hap w'
      simp only [Act.put, List.setIfInBounds_toArray, List.set_cons_zero, List.set_cons_succ, Nat.reduceAdd]
      repeat (first
        | (refine wpGrow_skip (by rfl) ?_; simp only [Act.put, List.setIfInBounds_toArray, List.set_cons_zero, List.set_cons_succ, Nat.reduceAdd])
        | (refine wpGrow_det' (by rfl) (by rfl) ?_; apply Exists.intro; refine ⟨fun w' hc hh => ?_, ?_⟩; (have hcell := grow_cell hc; clear hc hh; go_simp; rfl); simp only [Act.put, List.setIfInBounds_toArray, List.set_cons_zero, List.set_cons_succ, Nat.reduceAdd]))
      refine wpGrow_nil ?_
      intro w1 hg hh
      obtain ⟨lo9, hi9, hfp⟩ : ∃ lo hi, FlP (w.heap.size + 2) M lo hi (.slice A9 M.length c9) w1 := by have h : FlP (w.heap.size + 2) M _ _ (.slice A9 (M.map (Value.float .f64)).length c9) w1 := (hh 13).1; rw [List.length_map] at h; exact ⟨_, _, h⟩
      have HFP := Lib.hid hfp
      clear hfp
      have r0 := up_cell (a := ⟨w.heap.size + 1, 0, none⟩) (v := .int .i64 0) (by go_simp) hg
      have r1 := up_cell (a := ⟨w.heap.size + 1, 1, none⟩) (v := .int .i64 0) (by go_simp) hg
      have r2 := up_cell (a := ⟨w.heap.size + 1, 2, none⟩) (v := .int .i64 0) (by go_simp) hg
      have r3 := up_cell (a := ⟨w.heap.size + 1, 3, none⟩) (v := .slice none 0 0) (by go_simp) hg
      have r4 := up_cell (a := ⟨w.heap.size + 1, 4, none⟩) (v := .slice none 0 0) (by go_simp) hg
      have r5 := up_cell (a := ⟨w.heap.size + 1, 5, none⟩) (v := .slice none 0 0) (by go_simp) hg
      have r6 := up_cell (a := ⟨w.heap.size + 1, 6, none⟩) (v := .slice none 0 0) (by go_simp) hg
      have f1 : ∀ o, w1.frozen? ⟨w.heap.size + 1, o, none⟩ = false := fun o => (grow_frozen hg _ _ (by simp <;> omega)).trans (by go_simp)
      have HG := Lib.hid (HW2.out.trans hg)
      clear hh hg
      go_wp2
      refine bodyPost_ret (v := GeoF 2 l 0 (.slice A9 M.length c9) (.slice none 0 0) (.slice none 0 0) (.slice none 0 0)) (by simp [results, Try.results67, go_sem, r0, r1, r2, r3, r4, r5, r6]) rfl ⟨_, rfl, (((((((HG.out).setCell (by simp) _).setCell (by simp) _).setCell (by simp) _).setCell (by simp) _).setCell (by simp) _).setCell (by simp) _).setCell (by simp) _, fun w2 hw => GV.part ((HFP.out.2.2.move fun q k1 k2 => ?_).now)⟩
      have hB := HFP.out.1; have hH := HFP.out.2.1
      rw [hw q (by omega) (by simp [World.setCell]; omega)]
      have hne : w.heap.size + 1 ≠ q := by omega
      have hne' : q ≠ w.heap.size + 1 := by omega
      iterate 7 rw [Below.heap_setCell _ _ _ _ (by first | exact hne | exact hne')]
    case neg =>
      have hkk' : kk = 2 := by rw [hkk]; rfl
      subst hkk'
      clear hkk
      obtain ⟨m, hm⟩ : ∃ m, i = m + 1 := ⟨i - 1, by omega⟩
      have hpc := HCE.out (i - 1) X (HP.out (by omega))
      rw [show i - 1 = m by omega] at hpc
      have hbe3 : be < w.heap.size := cell_ltH hpc
      have hm1 : IntKind.i64.wrap ((i : Int) - 1) = (m : Int) := by rw [hm]; exact (wrapM (by omega) (by omega)).trans (by omega)
      have hm2 : (i : Int) - 1 = (m : Int) := by omega
      have hm3 : (m : Int) < (segs.length : Int) := by omega
      have hi0 : (0 : Int) < (i : Int) := by omega
      have hi1 : 0 < i := by omega
      clear hm h0
      subst hii
      go_enter Try.func67, Try.ntmps67
      go_wp2_with (go_at_call 88; refine (kidOf5 _).mono ?_; rintro e w' ⟨rfl, rfl⟩)
      refine wp_region_grow_tail 14 (fun i => if i = 3 then some (fun _ _ V ww => NewE V ww) else if i = 13 then some (fun lo hi V ww => FlP (w.heap.size + 2) M lo hi V ww) else none) (by kernel_rfl) (by kernel_rfl) ?_ ?_
      · intro i Φ h lo hi v
        (repeat' split at h) <;> cases h
        · exact NewE.up
        · exact FlP.up
      simp only [List.take_succ_cons, List.take_zero, List.drop_succ_cons, List.drop_zero]
      repeat (first
        | (refine wpGrow_skip (by rfl) ?_; simp only [Act.put, List.setIfInBounds_toArray, List.set_cons_zero, List.set_cons_succ, Nat.reduceAdd])
        | (refine wpGrow_det' (by rfl) (by rfl) ?_; apply Exists.intro; refine ⟨fun w' hc hh => ?_, ?_⟩; (have hcell := grow_cell hc; clear hc hh; go_simp; rfl); simp only [Act.put, List.setIfInBounds_toArray, List.set_cons_zero, List.set_cons_succ, Nat.reduceAdd]))
      refine wpGrow_eff' (by rfl) (by rfl) (fun w' hc hh => ?_) (fun v lo hi w' hap hc hh hv => ?_)
      · clear hc hh
        go_simp
        exact EffVal.mk ((Grow.refl _).alloc _) ⟨_, rfl⟩
      obtain ⟨h94, rfl⟩ := hv
      clear hc hh hap w'
      simp only [Act.put, List.setIfInBounds_toArray, List.set_cons_zero, List.set_cons_succ, Nat.reduceAdd]
      repeat (first
        | (refine wpGrow_skip (by rfl) ?_; simp only [Act.put, List.setIfInBounds_toArray, List.set_cons_zero, List.set_cons_succ, Nat.reduceAdd])
        | (refine wpGrow_det' (by rfl) (by rfl) ?_; apply Exists.intro; refine ⟨fun w' hc hh => ?_, ?_⟩; (have hcell := grow_cell hc; clear hc hh; go_simp; rfl); simp only [Act.put, List.setIfInBounds_toArray, List.set_cons_zero, List.set_cons_succ, Nat.reduceAdd]))
      refine wpGrow_eff' (by rfl) (by rfl) (fun w' hc hh => ?_) (fun v lo hi w' hap hc hh hv => ?_)
      · have HSZ := Lib.hid hc.size
        have HMW := Lib.hid (FSl.up _ _ HM.out (HW2.out.trans hc))
        clear hc hh
        obtain ⟨v', w2, hrun, hg2, hst2⟩ := run_append_fresh (P := Try.prog) (w := w') 22 22 42 i0 (.float .f64 0) 8 undR0 HI.out HZ0.out HZ1.out HZ2.out rfl h94 HMW.out.v (by simp; omega) (by simp; omega)
        simp [execOp, resolve, invoke, builtin, Sem.run_bind, Sem.run_pure, Act.eval, hrun]
        exact EffVal.mk hg2 ⟨by simpa using HSZ.out, Nat.le_refl _, hst2⟩
      obtain ⟨A9, c9, rfl⟩ := vslForm hv.2.2.now
      clear hv
      clear hc hh hap w'
      simp only [Act.put, List.setIfInBounds_toArray, List.set_cons_zero, List.set_cons_succ, Nat.reduceAdd]
      repeat (first
        | (refine wpGrow_skip (by rfl) ?_; simp only [Act.put, List.setIfInBounds_toArray, List.set_cons_zero, List.set_cons_succ, Nat.reduceAdd])
        | (refine wpGrow_det' (by rfl) (by rfl) ?_; apply Exists.intro; refine ⟨fun w' hc hh => ?_, ?_⟩; (have hcell := grow_cell hc; clear hc hh; go_simp; rfl); simp only [Act.put, List.setIfInBounds_toArray, List.set_cons_zero, List.set_cons_succ, Nat.reduceAdd]))
      refine wpGrow_nil ?_
      intro w1 hg hh
      obtain ⟨lo9, hi9, hfp⟩ : ∃ lo hi, FlP (w.heap.size + 2) M lo hi (.slice A9 M.length c9) w1 := by have h : FlP (w.heap.size + 2) M _ _ (.slice A9 (M.map (Value.float .f64)).length c9) w1 := (hh 13).1; rw [List.length_map] at h; exact ⟨_, _, h⟩
      have HFP := Lib.hid hfp
      clear hfp
      have r0 := up_cell (a := ⟨w.heap.size + 1, 0, none⟩) (v := .int .i64 0) (by go_simp) hg
      have r1 := up_cell (a := ⟨w.heap.size + 1, 1, none⟩) (v := .int .i64 0) (by go_simp) hg
      have r2 := up_cell (a := ⟨w.heap.size + 1, 2, none⟩) (v := .int .i64 0) (by go_simp) hg
      have r3 := up_cell (a := ⟨w.heap.size + 1, 3, none⟩) (v := .slice none 0 0) (by go_simp) hg
      have r4 := up_cell (a := ⟨w.heap.size + 1, 4, none⟩) (v := .slice none 0 0) (by go_simp) hg
      have r5 := up_cell (a := ⟨w.heap.size + 1, 5, none⟩) (v := .slice none 0 0) (by go_simp) hg
      have r6 := up_cell (a := ⟨w.heap.size + 1, 6, none⟩) (v := .slice none 0 0) (by go_simp) hg
      have f1 : ∀ o, w1.frozen? ⟨w.heap.size + 1, o, none⟩ = false := fun o => (grow_frozen hg _ _ (by simp <;> omega)).trans (by go_simp)
      have HG := Lib.hid (HW2.out.trans hg)
      clear hh hg
      go_wp2
      refine bodyPost_ret (v := GeoF 2 l 0 (.slice A9 M.length c9) (.slice none 0 0) (.slice none 0 0) (.slice none 0 0)) (by simp [results, Try.results67, go_sem, r0, r1, r2, r3, r4, r5, r6]) rfl ⟨_, rfl, (((((((HG.out).setCell (by simp) _).setCell (by simp) _).setCell (by simp) _).setCell (by simp) _).setCell (by simp) _).setCell (by simp) _).setCell (by simp) _, fun w2 hw => GV.part ((HFP.out.2.2.move fun q k1 k2 => ?_).now)⟩
      have hB := HFP.out.1; have hH := HFP.out.2.1
      rw [hw q (by omega) (by simp [World.setCell]; omega)]
      have hne : w.heap.size + 1 ≠ q := by omega
      have hne' : q ≠ w.heap.size + 1 := by omega
      iterate 7 rw [Below.heap_setCell _ _ _ _ (by first | exact hne | exact hne')]
end Go.Proofs.Ytegknlnkkoeahaa
