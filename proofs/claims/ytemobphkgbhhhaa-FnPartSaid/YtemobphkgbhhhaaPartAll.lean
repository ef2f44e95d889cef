import Derived.Test.YtemobphkgbhhhaaAppF
import Derived.Test.YtemobphkgbhhhaaArrA
import Derived.Test.YtemobphkgbhhhaaSegB
import Derived.Test.YtemobphkgbhhhaaSegC
import Derived.Test.YtemobphkgbhhhaaFB
namespace Go.Proofs.Ytemobphkgbhhhaa
open Go.ChangeShapes Go.WideShapes Go.ChangeAt Go.RowKit Go.GrowR
set_option linter.unusedVariables false
set_option linter.unusedSimpArgs false

theorem infoFp : (Try.prog.info? 36).map (fun i => (i.zero, i.size, i.bytes)) = some (some (.float .f64 0), 1, 8) := by kernel_rfl
def PartQ (g : GT) (w : World) (e : Ending) (w' : World) : Prop := ∃ v, e = .returned v ∧ Grow w w' ∧ Stab w.heap.size w'.heap.size (GV g v) w'
def NewE (V : Value) (w : World) : Prop := ∃ h, V = .slice (some ⟨h, 0, none⟩) 0 0
theorem NewE.up {V : Value} : Up (NewE V) := fun _ _ h _ => h
def FlP (B : Nat) (M : List Nat) (lo hi : Nat) (V : Value) (w : World) : Prop := B ≤ lo ∧ hi ≤ w.heap.size ∧ Stab lo hi (VSl V (M.map (.float .f64))) w
theorem FlP.up {B : Nat} {M : List Nat} {lo hi : Nat} {V : Value} : Up (FlP B M lo hi V) := fun _ _ ⟨h1, h2, h3⟩ hg => ⟨h1, Nat.le_trans h2 hg.size, h3.grow hg h2⟩
theorem vslForm {v : Value} {xs : List Value} {w : World} (h : VSl v xs w) : ∃ A c, v = .slice A xs.length c := let ⟨A, c, h1, _⟩ := h; ⟨A, c, h1⟩
theorem GV.part {k l : Int} {V : Value} {M : List Nat} {w : World} (h : VSl V (M.map (.float .f64)) w) : GV (.mk k l 0 M [] [] []) (GeoF k l 0 V (.slice none 0 0) (.slice none 0 0) (.slice none 0 0)) w := by
  unfold GV
  exact ⟨_, _, _, none, 0, rfl, Nat.le_refl _, h.f, ISl.nil, ISSl.nil, .inl rfl⟩
theorem kidOf4 (w : World) : Calls Try.prog 45 #[.int .i64 4] w fun e w' => e = .returned (.int .i64 1) ∧ w' = w := by
  go_enter Try.func45, Try.ntmps45
  go_wp2
  go_ret
  exact ⟨rfl, rfl⟩
theorem kidOf5 (w : World) : Calls Try.prog 45 #[.int .i64 5] w fun e w' => e = .returned (.int .i64 2) ∧ w' = w := by
  go_enter Try.func45, Try.ntmps45
  go_wp2
  go_ret
  exact ⟨rfl, rfl⟩
theorem kidOf6 (w : World) : Calls Try.prog 45 #[.int .i64 6] w fun e w' => e = .returned (.int .i64 3) ∧ w' = w := by
  go_enter Try.func45, Try.ntmps45
  go_wp2
  go_ret
  exact ⟨rfl, rfl⟩

set_option maxRecDepth 100000 in
set_option maxHeartbeats 8000000 in
/-- a part of a polygon, a multi point or a multi line string *)-/
theorem part2_calls (k l r : Int) (kk : Int) (A1 A2 A3 A4 : Option Addr) (n1 c1 n2 c2 n3 c3 n4 c4 : Nat) (s i : Nat) (ii : Int) (hii : ii = i) (segs : List (List (List Nat))) (rows : List (List Nat)) (w : World) (hk : k = 3 ∨ k = 4 ∨ k = 5) (hkk : kk = if k = 3 then 8 else k - 3)
    (hu : FSl (.slice A1 n1 c1) (fwd segs) w) (hE : EndR A2 (cum s 0 segs) w) (hn2 : n2 = segs.length) (hr : ∀ rows ∈ segs, ∀ r ∈ rows, r.length = s) (hi : segs[i]? = some rows) (hn1 : n1 ≤ 17592186044416) (hsl : segs.length ≤ 17592186044416) :
    Calls Try.prog 21 #[Geo7 k l r A1 n1 c1 A2 n2 c2 A3 n3 c3 A4 n4 c4, .int .i64 ii] w (PartQ (.mk kk l 0 rows.flatten [] [] []) w) := by
  obtain ⟨i0, hi0, hz0, hz1, hz2⟩ := info_parts infoFp
  have HI := Lib.hid hi0; have HZ0 := Lib.hid hz0; have HZ1 := Lib.hid hz1; have HZ2 := Lib.hid hz2; clear hi0 hz0 hz1 hz2
  have hil := (List.getElem?_eq_some_iff.1 hi).1
  have hu0 := hu
  have hn1e : n1 = (fwd segs).length := by obtain ⟨A', c', he, -, -⟩ := hu; simp only [Value.slice.injEq] at he; exact he.2.1
  rw [seg_flat hi] at hu
  obtain ⟨A', c', hM, hcut⟩ := fcut (P := Try.prog) undR0 HI.out HZ1.out hu
  obtain ⟨X, hX⟩ : ∃ X, X = (fwd (segs.take i)).length := ⟨_, rfl⟩
  obtain ⟨Y, hY⟩ : ∃ Y, Y = X + rows.flatten.length := ⟨_, rfl⟩
  have hend := cum_at (o := 0) hr hi
  rw [Nat.zero_add, ← flat_len (hr rows (List.mem_of_getElem? hi)), ← hX, ← hY] at hend
  have hprev : 0 < i → (cum s 0 segs)[i - 1]? = some X := fun h0 => by
    obtain ⟨rows', hi'⟩ : ∃ p, segs[i - 1]? = some p := ⟨segs[i - 1]'(by omega), by simp [show i - 1 < segs.length by omega]⟩
    rw [cum_at (o := 0) hr hi', Nat.zero_add, ← flat_len (hr rows' (List.mem_of_getElem? hi')), ← List.length_append, ← fwd_snoc hi', show i - 1 + 1 = i by omega, hX]
  rcases hE with h0 | ⟨be, oe, rfl, hce⟩
  · exfalso; have := congrArg List.length h0; rw [cum_len, List.length_nil] at this; omega
  have hYn : Y ≤ n1 := by
    have h1 := congrArg List.length (seg_flat hi)
    simp only [List.length_append] at h1
    omega
  have hcy := hce i Y hend
  have hbe : be < w.heap.size := cell_ltH hcy
  have hcut' : ∀ (w' : World), (Instr.slice 22 (.slice A1 n1 c1) (some (.int .i64 X)) (some (.int .i64 Y)) none).run Try.prog w' = .ok (.slice A' rows.flatten.length c') w' := fun w' => by rw [hX]; exact hcut w' .i64 .i64 Y (by rw [hY, hX]; omega)
  have HX0 := Lib.hid (show i = 0 → X = 0 by intro h; rw [hX, h]; rfl)
  have HM := Lib.hid hM; have HCE := Lib.hid hce; have HP := Lib.hid hprev
  have hrl : rows.flatten.length ≤ 17592186044416 := by omega
  have hin : (i : Int) < (n2 : Int) := by omega
  clear hu hu0 hend hcut hM hr hprev hX hY hn1e hce
  subst hn2
  have hb0 : be < w.heap.size + 1 := by omega
  have hb1 : be < w.heap.size + 2 := by omega
  have HW2 := Lib.hid ((((Grow.refl w).alloc (Obj.cells #[.int .i64 k, .int .i64 l, .int .i64 r, .slice A1 n1 c1, .slice (some ⟨be, oe, none⟩) segs.length c2, .slice A3 n3 c3, .slice A4 n4 c4] 28)).alloc (Obj.cells #[.int .i64 0, .int .i64 0, .int .i64 0, .slice none 0 0, .slice none 0 0, .slice none 0 0, .slice none 0 0] 28)))
  have hps : 0 < segs.length := by omega
  clear hi hil
  generalize rows.flatten = M at *
  rcases hk with rfl | rfl | rfl
  · by_cases h0 : i = 0
    case pos =>
      have hkk' : kk = 8 := by rw [hkk]; rfl
      subst hkk'
      clear hkk
      subst h0
      have hX0 : X = 0 := HX0.out rfl
      subst hX0
      obtain rfl : ii = 0 := hii
      have hcut0 : ∀ (w' : World), (Instr.slice 22 (.slice A1 n1 c1) (some (.int .i64 0)) (some (.int .i64 Y)) none).run Try.prog w' = .ok (.slice A' M.length c') w' := hcut'
      have hcy0 : w.cell? ⟨be, oe, none⟩ = some (.int .i64 Y) := hcy
      have hin0 : (0 : Int) < (segs.length : Int) := hin
      clear hcut' hcy hin
      go_enter Try.func21, Try.ntmps21
      go_wp2
      refine wp_region_grow_tail 14 (fun i => if i = 3 then some (fun _ _ V ww => NewE V ww) else if i = 13 then some (fun lo hi V ww => FlP (w.heap.size + 2) M lo hi V ww) else none) (by kernel_rfl) (by kernel_rfl) ?_ ?_
      · intro i Φ h lo hi v
        (repeat' split at h) <;> cases h
        · exact NewE.up
        · exact FlP.up
      simp only [List.take_succ_cons, List.take_zero, List.drop_succ_cons, List.drop_zero]
      repeat (first
        | (refine wpGrow_skip (by rfl) ?_; simp only [Act.put, List.setIfInBounds_toArray, List.set_cons_zero, List.set_cons_succ, Nat.reduceAdd])
        | (refine wpGrow_det' (by rfl) (by rfl) ?_; apply Exists.intro; refine ⟨fun w' hc hh => ?_, ?_⟩; (have hcell := grow_cell hc; clear hc hh; go_simp; rfl); simp only [Act.put, List.setIfInBounds_toArray, List.set_cons_zero, List.set_cons_succ, Nat.reduceAdd]))
      refine wpGrow_eff' (by rfl) (by rfl) (fun w' hc hh => ?_) (fun v lo hi w' hap hc hh hv => ?_)
      · clear hc hh
        go_simp
        exact EffVal.mk ((Grow.refl _).alloc _) ⟨_, rfl⟩
      obtain ⟨h94, rfl⟩ := hv
      clear hc hh hap w'
      simp only [Act.put, List.setIfInBounds_toArray, List.set_cons_zero, List.set_cons_succ, Nat.reduceAdd]
      repeat (first
        | (refine wpGrow_skip (by rfl) ?_; simp only [Act.put, List.setIfInBounds_toArray, List.set_cons_zero, List.set_cons_succ, Nat.reduceAdd])
        | (refine wpGrow_det' (by rfl) (by rfl) ?_; apply Exists.intro; refine ⟨fun w' hc hh => ?_, ?_⟩; (have hcell := grow_cell hc; clear hc hh; go_simp; rfl); simp only [Act.put, List.setIfInBounds_toArray, List.set_cons_zero, List.set_cons_succ, Nat.reduceAdd]))
      refine wpGrow_eff' (by rfl) (by rfl) (fun w' hc hh => ?_) (fun v lo hi w' hap hc hh hv => ?_)
      · have HSZ := Lib.hid hc.size
        have HMW := Lib.hid (FSl.up _ _ HM.out (HW2.out.trans hc))
        clear hc hh
        obtain ⟨v', w2, hrun, hg2, hst2⟩ := run_append_fresh (P := Try.prog) (w := w') 22 22 36 i0 (.float .f64 0) 8 undR0 HI.out HZ0.out HZ1.out HZ2.out rfl h94 HMW.out.v (by simp; omega) (by simp; omega)
        simp [execOp, resolve, invoke, builtin, Sem.run_bind, Sem.run_pure, Act.eval, hrun]
        exact EffVal.mk hg2 ⟨by simpa using HSZ.out, Nat.le_refl _, hst2⟩
      obtain ⟨A9, c9, rfl⟩ := vslForm hv.2.2.now
      clear hv
      clear hc hh hap w'
      simp only [Act.put, List.setIfInBounds_toArray, List.set_cons_zero, List.set_cons_succ, Nat.reduceAdd]
      repeat (first
        | (refine wpGrow_skip (by rfl) ?_; simp only [Act.put, List.setIfInBounds_toArray, List.set_cons_zero, List.set_cons_succ, Nat.reduceAdd])
        | (refine wpGrow_det' (by rfl) (by rfl) ?_; apply Exists.intro; refine ⟨fun w' hc hh => ?_, ?_⟩; (have hcell := grow_cell hc; clear hc hh; go_simp; rfl); simp only [Act.put, List.setIfInBounds_toArray, List.set_cons_zero, List.set_cons_succ, Nat.reduceAdd]))
      refine wpGrow_nil ?_
      intro w1 hg hh
      obtain ⟨lo9, hi9, hfp⟩ : ∃ lo hi, FlP (w.heap.size + 2) M lo hi (.slice A9 M.length c9) w1 := by have h : FlP (w.heap.size + 2) M _ _ (.slice A9 (M.map (Value.float .f64)).length c9) w1 := (hh 13).1; rw [List.length_map] at h; exact ⟨_, _, h⟩
      have HFP := Lib.hid hfp
      clear hfp
      have r0 := up_cell (a := ⟨w.heap.size + 1, 0, none⟩) (v := .int .i64 0) (by go_simp) hg
      have r1 := up_cell (a := ⟨w.heap.size + 1, 1, none⟩) (v := .int .i64 0) (by go_simp) hg
      have r2 := up_cell (a := ⟨w.heap.size + 1, 2, none⟩) (v := .int .i64 0) (by go_simp) hg
      have r3 := up_cell (a := ⟨w.heap.size + 1, 3, none⟩) (v := .slice none 0 0) (by go_simp) hg
      have r4 := up_cell (a := ⟨w.heap.size + 1, 4, none⟩) (v := .slice none 0 0) (by go_simp) hg
      have r5 := up_cell (a := ⟨w.heap.size + 1, 5, none⟩) (v := .slice none 0 0) (by go_simp) hg
      have r6 := up_cell (a := ⟨w.heap.size + 1, 6, none⟩) (v := .slice none 0 0) (by go_simp) hg
      have f1 : ∀ o, w1.frozen? ⟨w.heap.size + 1, o, none⟩ = false := fun o => (grow_frozen hg _ _ (by simp <;> omega)).trans (by go_simp)
      have HG := Lib.hid (HW2.out.trans hg)
      clear hh hg
      go_wp2
      refine bodyPost_ret (v := GeoF 8 l 0 (.slice A9 M.length c9) (.slice none 0 0) (.slice none 0 0) (.slice none 0 0)) (by simp [results, Try.results21, go_sem, r0, r1, r2, r3, r4, r5, r6]) rfl ⟨_, rfl, (((((((HG.out).setCell (by simp) _).setCell (by simp) _).setCell (by simp) _).setCell (by simp) _).setCell (by simp) _).setCell (by simp) _).setCell (by simp) _, fun w2 hw => GV.part ((HFP.out.2.2.move fun q k1 k2 => ?_).now)⟩
      have hB := HFP.out.1; have hH := HFP.out.2.1
      rw [hw q (by omega) (by simp [World.setCell]; omega)]
      have hne : w.heap.size + 1 ≠ q := by omega
      have hne' : q ≠ w.heap.size + 1 := by omega
      iterate 7 rw [Below.heap_setCell _ _ _ _ (by first | exact hne | exact hne')]
    case neg =>
      have hkk' : kk = 8 := by rw [hkk]; rfl
      subst hkk'
      clear hkk
      obtain ⟨m, hm⟩ : ∃ m, i = m + 1 := ⟨i - 1, by omega⟩
      have hpc := HCE.out (i - 1) X (HP.out (by omega))
      rw [show i - 1 = m by omega] at hpc
      have hbe3 : be < w.heap.size := cell_ltH hpc
      have hm1 : IntKind.i64.wrap ((i : Int) - 1) = (m : Int) := by rw [hm]; exact (wrapM (by omega) (by omega)).trans (by omega)
      have hm2 : (i : Int) - 1 = (m : Int) := by omega
      have hm3 : (m : Int) < (segs.length : Int) := by omega
      have hi0 : (0 : Int) < (i : Int) := by omega
      have hi1 : 0 < i := by omega
      clear hm h0
      subst hii
      go_enter Try.func21, Try.ntmps21
      go_wp2
      refine wp_region_grow_tail 14 (fun i => if i = 3 then some (fun _ _ V ww => NewE V ww) else if i = 13 then some (fun lo hi V ww => FlP (w.heap.size + 2) M lo hi V ww) else none) (by kernel_rfl) (by kernel_rfl) ?_ ?_
      · intro i Φ h lo hi v
        (repeat' split at h) <;> cases h
        · exact NewE.up
        · exact FlP.up
      simp only [List.take_succ_cons, List.take_zero, List.drop_succ_cons, List.drop_zero]
      repeat (first
        | (refine wpGrow_skip (by rfl) ?_; simp only [Act.put, List.setIfInBounds_toArray, List.set_cons_zero, List.set_cons_succ, Nat.reduceAdd])
        | (refine wpGrow_det' (by rfl) (by rfl) ?_; apply Exists.intro; refine ⟨fun w' hc hh => ?_, ?_⟩; (have hcell := grow_cell hc; clear hc hh; go_simp; rfl); simp only [Act.put, List.setIfInBounds_toArray, List.set_cons_zero, List.set_cons_succ, Nat.reduceAdd]))
      refine wpGrow_eff' (by rfl) (by rfl) (fun w' hc hh => ?_) (fun v lo hi w' hap hc hh hv => ?_)
      · clear hc hh
        go_simp
        exact EffVal.mk ((Grow.refl _).alloc _) ⟨_, rfl⟩
      obtain ⟨h94, rfl⟩ := hv
      clear hc hh hap w'
      simp only [Act.put, List.setIfInBounds_toArray, List.set_cons_zero, List.set_cons_succ, Nat.reduceAdd]
      repeat (first
        | (refine wpGrow_skip (by rfl) ?_; simp only [Act.put, List.setIfInBounds_toArray, List.set_cons_zero, List.set_cons_succ, Nat.reduceAdd])
        | (refine wpGrow_det' (by rfl) (by rfl) ?_; apply Exists.intro; refine ⟨fun w' hc hh => ?_, ?_⟩; (have hcell := grow_cell hc; clear hc hh; go_simp; rfl); simp only [Act.put, List.setIfInBounds_toArray, List.set_cons_zero, List.set_cons_succ, Nat.reduceAdd]))
      refine wpGrow_eff' (by rfl) (by rfl) (fun w' hc hh => ?_) (fun v lo hi w' hap hc hh hv => ?_)
      · have HSZ := Lib.hid hc.size
        have HMW := Lib.hid (FSl.up _ _ HM.out (HW2.out.trans hc))
        clear hc hh
        obtain ⟨v', w2, hrun, hg2, hst2⟩ := run_append_fresh (P := Try.prog) (w := w') 22 22 36 i0 (.float .f64 0) 8 undR0 HI.out HZ0.out HZ1.out HZ2.out rfl h94 HMW.out.v (by simp; omega) (by simp; omega)
        simp [execOp, resolve, invoke, builtin, Sem.run_bind, Sem.run_pure, Act.eval, hrun]
        exact EffVal.mk hg2 ⟨by simpa using HSZ.out, Nat.le_refl _, hst2⟩
      obtain ⟨A9, c9, rfl⟩ := vslForm hv.2.2.now
      clear hv
      clear hc hh hap w'
      simp only [Act.put, List.setIfInBounds_toArray, List.set_cons_zero, List.set_cons_succ, Nat.reduceAdd]
      repeat (first
        | (refine wpGrow_skip (by rfl) ?_; simp only [Act.put, List.setIfInBounds_toArray, List.set_cons_zero, List.set_cons_succ, Nat.reduceAdd])
        | (refine wpGrow_det' (by rfl) (by rfl) ?_; apply Exists.intro; refine ⟨fun w' hc hh => ?_, ?_⟩; (have hcell := grow_cell hc; clear hc hh; go_simp; rfl); simp only [Act.put, List.setIfInBounds_toArray, List.set_cons_zero, List.set_cons_succ, Nat.reduceAdd]))
      refine wpGrow_nil ?_
      intro w1 hg hh
      obtain ⟨lo9, hi9, hfp⟩ : ∃ lo hi, FlP (w.heap.size + 2) M lo hi (.slice A9 M.length c9) w1 := by have h : FlP (w.heap.size + 2) M _ _ (.slice A9 (M.map (Value.float .f64)).length c9) w1 := (hh 13).1; rw [List.length_map] at h; exact ⟨_, _, h⟩
      have HFP := Lib.hid hfp
      clear hfp
      have r0 := up_cell (a := ⟨w.heap.size + 1, 0, none⟩) (v := .int .i64 0) (by go_simp) hg
      have r1 := up_cell (a := ⟨w.heap.size + 1, 1, none⟩) (v := .int .i64 0) (by go_simp) hg
      have r2 := up_cell (a := ⟨w.heap.size + 1, 2, none⟩) (v := .int .i64 0) (by go_simp) hg
      have r3 := up_cell (a := ⟨w.heap.size + 1, 3, none⟩) (v := .slice none 0 0) (by go_simp) hg
      have r4 := up_cell (a := ⟨w.heap.size + 1, 4, none⟩) (v := .slice none 0 0) (by go_simp) hg
      have r5 := up_cell (a := ⟨w.heap.size + 1, 5, none⟩) (v := .slice none 0 0) (by go_simp) hg
      have r6 := up_cell (a := ⟨w.heap.size + 1, 6, none⟩) (v := .slice none 0 0) (by go_simp) hg
      have f1 : ∀ o, w1.frozen? ⟨w.heap.size + 1, o, none⟩ = false := fun o => (grow_frozen hg _ _ (by simp <;> omega)).trans (by go_simp)
      have HG := Lib.hid (HW2.out.trans hg)
      clear hh hg
      go_wp2
      refine bodyPost_ret (v := GeoF 8 l 0 (.slice A9 M.length c9) (.slice none 0 0) (.slice none 0 0) (.slice none 0 0)) (by simp [results, Try.results21, go_sem, r0, r1, r2, r3, r4, r5, r6]) rfl ⟨_, rfl, (((((((HG.out).setCell (by simp) _).setCell (by simp) _).setCell (by simp) _).setCell (by simp) _).setCell (by simp) _).setCell (by simp) _).setCell (by simp) _, fun w2 hw => GV.part ((HFP.out.2.2.move fun q k1 k2 => ?_).now)⟩
      have hB := HFP.out.1; have hH := HFP.out.2.1
      rw [hw q (by omega) (by simp [World.setCell]; omega)]
      have hne : w.heap.size + 1 ≠ q := by omega
      have hne' : q ≠ w.heap.size + 1 := by omega
      iterate 7 rw [Below.heap_setCell _ _ _ _ (by first | exact hne | exact hne')]
  · by_cases h0 : i = 0
    case pos =>
      have hkk' : kk = 1 := by rw [hkk]; rfl
      subst hkk'
      clear hkk
      subst h0
      have hX0 : X = 0 := HX0.out rfl
      subst hX0
      obtain rfl : ii = 0 := hii
      have hcut0 : ∀ (w' : World), (Instr.slice 22 (.slice A1 n1 c1) (some (.int .i64 0)) (some (.int .i64 Y)) none).run Try.prog w' = .ok (.slice A' M.length c') w' := hcut'
      have hcy0 : w.cell? ⟨be, oe, none⟩ = some (.int .i64 Y) := hcy
      have hin0 : (0 : Int) < (segs.length : Int) := hin
      clear hcut' hcy hin
      go_enter Try.func21, Try.ntmps21
      go_wp2_with (go_at_call 45; refine (kidOf4 _).mono ?_; rintro e w' ⟨rfl, rfl⟩)
      refine wp_region_grow_tail 14 (fun i => if i = 3 then some (fun _ _ V ww => NewE V ww) else if i = 13 then some (fun lo hi V ww => FlP (w.heap.size + 2) M lo hi V ww) else none) (by kernel_rfl) (by kernel_rfl) ?_ ?_
      · intro i Φ h lo hi v
        (repeat' split at h) <;> cases h
        · exact NewE.up
        · exact FlP.up
      simp only [List.take_succ_cons, List.take_zero, List.drop_succ_cons, List.drop_zero]
      repeat (first
        | (refine wpGrow_skip (by rfl) ?_; simp only [Act.put, List.setIfInBounds_toArray, List.set_cons_zero, List.set_cons_succ, Nat.reduceAdd])
        | (refine wpGrow_det' (by rfl) (by rfl) ?_; apply Exists.intro; refine ⟨fun w' hc hh => ?_, ?_⟩; (have hcell := grow_cell hc; clear hc hh; go_simp; rfl); simp only [Act.put, List.setIfInBounds_toArray, List.set_cons_zero, List.set_cons_succ, Nat.reduceAdd]))
      refine wpGrow_eff' (by rfl) (by rfl) (fun w' hc hh => ?_) (fun v lo hi w' hap hc hh hv => ?_)
      · clear hc hh
        go_simp
        exact EffVal.mk ((Grow.refl _).alloc _) ⟨_, rfl⟩
      obtain ⟨h94, rfl⟩ := hv
      clear hc hh hap w'
      simp only [Act.put, List.setIfInBounds_toArray, List.set_cons_zero, List.set_cons_succ, Nat.reduceAdd]
      repeat (first
        | (refine wpGrow_skip (by rfl) ?_; simp only [Act.put, List.setIfInBounds_toArray, List.set_cons_zero, List.set_cons_succ, Nat.reduceAdd])
        | (refine wpGrow_det' (by rfl) (by rfl) ?_; apply Exists.intro; refine ⟨fun w' hc hh => ?_, ?_⟩; (have hcell := grow_cell hc; clear hc hh; go_simp; rfl); simp only [Act.put, List.setIfInBounds_toArray, List.set_cons_zero, List.set_cons_succ, Nat.reduceAdd]))
      refine wpGrow_eff' (by rfl) (by rfl) (fun w' hc hh => ?_) (fun v lo hi w' hap hc hh hv => ?_)
      · have HSZ := Lib.hid hc.size
        have HMW := Lib.hid (FSl.up _ _ HM.out (HW2.out.trans hc))
        clear hc hh
        obtain ⟨v', w2, hrun, hg2, hst2⟩ := run_append_fresh (P := Try.prog) (w := w') 22 22 36 i0 (.float .f64 0) 8 undR0 HI.out HZ0.out HZ1.out HZ2.out rfl h94 HMW.out.v (by simp; omega) (by simp; omega)
        simp [execOp, resolve, invoke, builtin, Sem.run_bind, Sem.run_pure, Act.eval, hrun]
        exact EffVal.mk hg2 ⟨by simpa using HSZ.out, Nat.le_refl _, hst2⟩
      obtain ⟨A9, c9, rfl⟩ := vslForm hv.2.2.now
      clear hv
      clear hc hh hap w'
      simp only [Act.put, List.setIfInBounds_toArray, List.set_cons_zero, List.set_cons_succ, Nat.reduceAdd]
      repeat (first
        | (refine wpGrow_skip (by rfl) ?_; simp only [Act.put, List.setIfInBounds_toArray, List.set_cons_zero, List.set_cons_succ, Nat.reduceAdd])
        | (refine wpGrow_det' (by rfl) (by rfl) ?_; apply Exists.intro; refine ⟨fun w' hc hh => ?_, ?_⟩; (have hcell := grow_cell hc; clear hc hh; go_simp; rfl); simp only [Act.put, List.setIfInBounds_toArray, List.set_cons_zero, List.set_cons_succ, Nat.reduceAdd]))
      refine wpGrow_nil ?_
      intro w1 hg hh
      obtain ⟨lo9, hi9, hfp⟩ : ∃ lo hi, FlP (w.heap.size + 2) M lo hi (.slice A9 M.length c9) w1 := by have h : FlP (w.heap.size + 2) M _ _ (.slice A9 (M.map (Value.float .f64)).length c9) w1 := (hh 13).1; rw [List.length_map] at h; exact ⟨_, _, h⟩
      have HFP := Lib.hid hfp
      clear hfp
      have r0 := up_cell (a := ⟨w.heap.size + 1, 0, none⟩) (v := .int .i64 0) (by go_simp) hg
      have r1 := up_cell (a := ⟨w.heap.size + 1, 1, none⟩) (v := .int .i64 0) (by go_simp) hg
      have r2 := up_cell (a := ⟨w.heap.size + 1, 2, none⟩) (v := .int .i64 0) (by go_simp) hg
      have r3 := up_cell (a := ⟨w.heap.size + 1, 3, none⟩) (v := .slice none 0 0) (by go_simp) hg
      have r4 := up_cell (a := ⟨w.heap.size + 1, 4, none⟩) (v := .slice none 0 0) (by go_simp) hg
      have r5 := up_cell (a := ⟨w.heap.size + 1, 5, none⟩) (v := .slice none 0 0) (by go_simp) hg
      have r6 := up_cell (a := ⟨w.heap.size + 1, 6, none⟩) (v := .slice none 0 0) (by go_simp) hg
      have f1 : ∀ o, w1.frozen? ⟨w.heap.size + 1, o, none⟩ = false := fun o => (grow_frozen hg _ _ (by simp <;> omega)).trans (by go_simp)
      have HG := Lib.hid (HW2.out.trans hg)
      clear hh hg
      go_wp2
      refine bodyPost_ret (v := GeoF 1 l 0 (.slice A9 M.length c9) (.slice none 0 0) (.slice none 0 0) (.slice none 0 0)) (by simp [results, Try.results21, go_sem, r0, r1, r2, r3, r4, r5, r6]) rfl ⟨_, rfl, (((((((HG.out).setCell (by simp) _).setCell (by simp) _).setCell (by simp) _).setCell (by simp) _).setCell (by simp) _).setCell (by simp) _).setCell (by simp) _, fun w2 hw => GV.part ((HFP.out.2.2.move fun q k1 k2 => ?_).now)⟩
      have hB := HFP.out.1; have hH := HFP.out.2.1
      rw [hw q (by omega) (by simp [World.setCell]; omega)]
      have hne : w.heap.size + 1 ≠ q := by omega
      have hne' : q ≠ w.heap.size + 1 := by omega
      iterate 7 rw [Below.heap_setCell _ _ _ _ (by first | exact hne | exact hne')]
    case neg =>
      have hkk' : kk = 1 := by rw [hkk]; rfl
      subst hkk'
      clear hkk
      obtain ⟨m, hm⟩ : ∃ m, i = m + 1 := ⟨i - 1, by omega⟩
      have hpc := HCE.out (i - 1) X (HP.out (by omega))
      rw [show i - 1 = m by omega] at hpc
      have hbe3 : be < w.heap.size := cell_ltH hpc
      have hm1 : IntKind.i64.wrap ((i : Int) - 1) = (m : Int) := by rw [hm]; exact (wrapM (by omega) (by omega)).trans (by omega)
      have hm2 : (i : Int) - 1 = (m : Int) := by omega
      have hm3 : (m : Int) < (segs.length : Int) := by omega
      have hi0 : (0 : Int) < (i : Int) := by omega
      have hi1 : 0 < i := by omega
      clear hm h0
      subst hii
      go_enter Try.func21, Try.ntmps21
      go_wp2_with (go_at_call 45; refine (kidOf4 _).mono ?_; rintro e w' ⟨rfl, rfl⟩)
      refine wp_region_grow_tail 14 (fun i => if i = 3 then some (fun _ _ V ww => NewE V ww) else if i = 13 then some (fun lo hi V ww => FlP (w.heap.size + 2) M lo hi V ww) else none) (by kernel_rfl) (by kernel_rfl) ?_ ?_
      · intro i Φ h lo hi v
        (repeat' split at h) <;> cases h
        · exact NewE.up
        · exact FlP.up
      simp only [List.take_succ_cons, List.take_zero, List.drop_succ_cons, List.drop_zero]
      repeat (first
        | (refine wpGrow_skip (by rfl) ?_; simp only [Act.put, List.setIfInBounds_toArray, List.set_cons_zero, List.set_cons_succ, Nat.reduceAdd])
        | (refine wpGrow_det' (by rfl) (by rfl) ?_; apply Exists.intro; refine ⟨fun w' hc hh => ?_, ?_⟩; (have hcell := grow_cell hc; clear hc hh; go_simp; rfl); simp only [Act.put, List.setIfInBounds_toArray, List.set_cons_zero, List.set_cons_succ, Nat.reduceAdd]))
      refine wpGrow_eff' (by rfl) (by rfl) (fun w' hc hh => ?_) (fun v lo hi w' hap hc hh hv => ?_)
      · clear hc hh
        go_simp
        exact EffVal.mk ((Grow.refl _).alloc _) ⟨_, rfl⟩
      obtain ⟨h94, rfl⟩ := hv
      clear hc hh hap w'
      simp only [Act.put, List.setIfInBounds_toArray, List.set_cons_zero, List.set_cons_succ, Nat.reduceAdd]
      repeat (first
        | (refine wpGrow_skip (by rfl) ?_; simp only [Act.put, List.setIfInBounds_toArray, List.set_cons_zero, List.set_cons_succ, Nat.reduceAdd])
        | (refine wpGrow_det' (by rfl) (by rfl) ?_; apply Exists.intro; refine ⟨fun w' hc hh => ?_, ?_⟩; (have hcell := grow_cell hc; clear hc hh; go_simp; rfl); simp only [Act.put, List.setIfInBounds_toArray, List.set_cons_zero, List.set_cons_succ, Nat.reduceAdd]))
      refine wpGrow_eff' (by rfl) (by rfl) (fun w' hc hh => ?_) (fun v lo hi w' hap hc hh hv => ?_)
      · have HSZ := Lib.hid hc.size
        have HMW := Lib.hid (FSl.up _ _ HM.out (HW2.out.trans hc))
        clear hc hh
        obtain ⟨v', w2, hrun, hg2, hst2⟩ := run_append_fresh (P := Try.prog) (w := w') 22 22 36 i0 (.float .f64 0) 8 undR0 HI.out HZ0.out HZ1.out HZ2.out rfl h94 HMW.out.v (by simp; omega) (by simp; omega)
        simp [execOp, resolve, invoke, builtin, Sem.run_bind, Sem.run_pure, Act.eval, hrun]
        exact EffVal.mk hg2 ⟨by simpa using HSZ.out, Nat.le_refl _, hst2⟩
      obtain ⟨A9, c9, rfl⟩ := vslForm hv.2.2.now
      clear hv
      clear hc hh hap w'
      simp only [Act.put, List.setIfInBounds_toArray, List.set_cons_zero, List.set_cons_succ, Nat.reduceAdd]
      repeat (first
        | (refine wpGrow_skip (by rfl) ?_; simp only [Act.put, List.setIfInBounds_toArray, List.set_cons_zero, List.set_cons_succ, Nat.reduceAdd])
        | (refine wpGrow_det' (by rfl) (by rfl) ?_; apply Exists.intro; refine ⟨fun w' hc hh => ?_, ?_⟩; (have hcell := grow_cell hc; clear hc hh; go_simp; rfl); simp only [Act.put, List.setIfInBounds_toArray, List.set_cons_zero, List.set_cons_succ, Nat.reduceAdd]))
      refine wpGrow_nil ?_
      intro w1 hg hh
      obtain ⟨lo9, hi9, hfp⟩ : ∃ lo hi, FlP (w.heap.size + 2) M lo hi (.slice A9 M.length c9) w1 := by have h : FlP (w.heap.size + 2) M _ _ (.slice A9 (M.map (Value.float .f64)).length c9) w1 := (hh 13).1; rw [List.length_map] at h; exact ⟨_, _, h⟩
      have HFP := Lib.hid hfp
      clear hfp
      have r0 := up_cell (a := ⟨w.heap.size + 1, 0, none⟩) (v := .int .i64 0) (by go_simp) hg
      have r1 := up_cell (a := ⟨w.heap.size + 1, 1, none⟩) (v := .int .i64 0) (by go_simp) hg
      have r2 := up_cell (a := ⟨w.heap.size + 1, 2, none⟩) (v := .int .i64 0) (by go_simp) hg
      have r3 := up_cell (a := ⟨w.heap.size + 1, 3, none⟩) (v := .slice none 0 0) (by go_simp) hg
      have r4 := up_cell (a := ⟨w.heap.size + 1, 4, none⟩) (v := .slice none 0 0) (by go_simp) hg
      have r5 := up_cell (a := ⟨w.heap.size + 1, 5, none⟩) (v := .slice none 0 0) (by go_simp) hg
      have r6 := up_cell (a := ⟨w.heap.size + 1, 6, none⟩) (v := .slice none 0 0) (by go_simp) hg
      have f1 : ∀ o, w1.frozen? ⟨w.heap.size + 1, o, none⟩ = false := fun o => (grow_frozen hg _ _ (by simp <;> omega)).trans (by go_simp)
      have HG := Lib.hid (HW2.out.trans hg)
      clear hh hg
      go_wp2
      refine bodyPost_ret (v := GeoF 1 l 0 (.slice A9 M.length c9) (.slice none 0 0) (.slice none 0 0) (.slice none 0 0)) (by simp [results, Try.results21, go_sem, r0, r1, r2, r3, r4, r5, r6]) rfl ⟨_, rfl, (((((((HG.out).setCell (by simp) _).setCell (by simp) _).setCell (by simp) _).setCell (by simp) _).setCell (by simp) _).setCell (by simp) _).setCell (by simp) _, fun w2 hw => GV.part ((HFP.out.2.2.move fun q k1 k2 => ?_).now)⟩
      have hB := HFP.out.1; have hH := HFP.out.2.1
      rw [hw q (by omega) (by simp [World.setCell]; omega)]
      have hne : w.heap.size + 1 ≠ q := by omega
      have hne' : q ≠ w.heap.size + 1 := by omega
      iterate 7 rw [Below.heap_setCell _ _ _ _ (by first | exact hne | exact hne')]
  · by_cases h0 : i = 0
    case pos =>
      have hkk' : kk = 2 := by rw [hkk]; rfl
      subst hkk'
      clear hkk
      subst h0
      have hX0 : X = 0 := HX0.out rfl
      subst hX0
      obtain rfl : ii = 0 := hii
      have hcut0 : ∀ (w' : World), (Instr.slice 22 (.slice A1 n1 c1) (some (.int .i64 0)) (some (.int .i64 Y)) none).run Try.prog w' = .ok (.slice A' M.length c') w' := hcut'
      have hcy0 : w.cell? ⟨be, oe, none⟩ = some (.int .i64 Y) := hcy
      have hin0 : (0 : Int) < (segs.length : Int) := hin
      clear hcut' hcy hin
      go_enter Try.func21, Try.ntmps21
      go_wp2_with (go_at_call 45; refine (kidOf5 _).mono ?_; rintro e w' ⟨rfl, rfl⟩)
      refine wp_region_grow_tail 14 (fun i => if i = 3 then some (fun _ _ V ww => NewE V ww) else if i = 13 then some (fun lo hi V ww => FlP (w.heap.size + 2) M lo hi V ww) else none) (by kernel_rfl) (by kernel_rfl) ?_ ?_
      · intro i Φ h lo hi v
        (repeat' split at h) <;> cases h
        · exact NewE.up
        · exact FlP.up
      simp only [List.take_succ_cons, List.take_zero, List.drop_succ_cons, List.drop_zero]
      repeat (first
        | (refine wpGrow_skip (by rfl) ?_; simp only [Act.put, List.setIfInBounds_toArray, List.set_cons_zero, List.set_cons_succ, Nat.reduceAdd])
        | (refine wpGrow_det' (by rfl) (by rfl) ?_; apply Exists.intro; refine ⟨fun w' hc hh => ?_, ?_⟩; (have hcell := grow_cell hc; clear hc hh; go_simp; rfl); simp only [Act.put, List.setIfInBounds_toArray, List.set_cons_zero, List.set_cons_succ, Nat.reduceAdd]))
      refine wpGrow_eff' (by rfl) (by rfl) (fun w' hc hh => ?_) (fun v lo hi w' hap hc hh hv => ?_)
      · clear hc hh
        go_simp
        exact EffVal.mk ((Grow.refl _).alloc _) ⟨_, rfl⟩
      obtain ⟨h94, rfl⟩ := hv
      clear hc hh hap w'
      simp only [Act.put, List.setIfInBounds_toArray, List.set_cons_zero, List.set_cons_succ, Nat.reduceAdd]
      repeat (first
        | (refine wpGrow_skip (by rfl) ?_; simp only [Act.put, List.setIfInBounds_toArray, List.set_cons_zero, List.set_cons_succ, Nat.reduceAdd])
        | (refine wpGrow_det' (by rfl) (by rfl) ?_; apply Exists.intro; refine ⟨fun w' hc hh => ?_, ?_⟩; (have hcell := grow_cell hc; clear hc hh; go_simp; rfl); simp only [Act.put, List.setIfInBounds_toArray, List.set_cons_zero, List.set_cons_succ, Nat.reduceAdd]))
      refine wpGrow_eff' (by rfl) (by rfl) (fun w' hc hh => ?_) (fun v lo hi w' hap hc hh hv => ?_)
      · have HSZ := Lib.hid hc.size
        have HMW := Lib.hid (FSl.up _ _ HM.out (HW2.out.trans hc))
        clear hc hh
        obtain ⟨v', w2, hrun, hg2, hst2⟩ := run_append_fresh (P := Try.prog) (w := w') 22 22 36 i0 (.float .f64 0) 8 undR0 HI.out HZ0.out HZ1.out HZ2.out rfl h94 HMW.out.v (by simp; omega) (by simp; omega)
        simp [execOp, resolve, invoke, builtin, Sem.run_bind, Sem.run_pure, Act.eval, hrun]
        exact EffVal.mk hg2 ⟨by simpa using HSZ.out, Nat.le_refl _, hst2⟩
      obtain ⟨A9, c9, rfl⟩ := vslForm hv.2.2.now
      clear hv
      clear hc hh hap w'
      simp only [Act.put, List.setIfInBounds_toArray, List.set_cons_zero, List.set_cons_succ, Nat.reduceAdd]
      repeat (first
        | (refine wpGrow_skip (by rfl) ?_; simp only [Act.put, List.setIfInBounds_toArray, List.set_cons_zero, List.set_cons_succ, Nat.reduceAdd])
        | (refine wpGrow_det' (by rfl) (by rfl) ?_; apply Exists.intro; refine ⟨fun w' hc hh => ?_, ?_⟩; (have hcell := grow_cell hc; clear hc hh; go_simp; rfl); simp only [Act.put, List.setIfInBounds_toArray, List.set_cons_zero, List.set_cons_succ, Nat.reduceAdd]))
      refine wpGrow_nil ?_
      intro w1 hg hh
      obtain ⟨lo9, hi9, hfp⟩ : ∃ lo hi, FlP (w.heap.size + 2) M lo hi (.slice A9 M.length c9) w1 := by have h : FlP (w.heap.size + 2) M _ _ (.slice A9 (M.map (Value.float .f64)).length c9) w1 := (hh 13).1; rw [List.length_map] at h; exact ⟨_, _, h⟩
      have HFP := Lib.hid hfp
      clear hfp
      have r0 := up_cell (a := ⟨w.heap.size + 1, 0, none⟩) (v := .int .i64 0) (by go_simp) hg
      have r1 := up_cell (a := ⟨w.heap.size + 1, 1, none⟩) (v := .int .i64 0) (by go_simp) hg
      have r2 := up_cell (a := ⟨w.heap.size + 1, 2, none⟩) (v := .int .i64 0) (by go_simp) hg
      have r3 := up_cell (a := ⟨w.heap.size + 1, 3, none⟩) (v := .slice none 0 0) (by go_simp) hg
      have r4 := up_cell (a := ⟨w.heap.size + 1, 4, none⟩) (v := .slice none 0 0) (by go_simp) hg
      have r5 := up_cell (a := ⟨w.heap.size + 1, 5, none⟩) (v := .slice none 0 0) (by go_simp) hg
      have r6 := up_cell (a := ⟨w.heap.size + 1, 6, none⟩) (v := .slice none 0 0) (by go_simp) hg
      have f1 : ∀ o, w1.frozen? ⟨w.heap.size + 1, o, none⟩ = false := fun o => (grow_frozen hg _ _ (by simp <;> omega)).trans (by go_simp)
      have HG := Lib.hid (HW2.out.trans hg)
      clear hh hg
      go_wp2
      refine bodyPost_ret (v := GeoF 2 l 0 (.slice A9 M.length c9) (.slice none 0 0) (.slice none 0 0) (.slice none 0 0)) (by simp [results, Try.results21, go_sem, r0, r1, r2, r3, r4, r5, r6]) rfl ⟨_, rfl, (((((((HG.out).setCell (by simp) _).setCell (by simp) _).setCell (by simp) _).setCell (by simp) _).setCell (by simp) _).setCell (by simp) _).setCell (by simp) _, fun w2 hw => GV.part ((HFP.out.2.2.move fun q k1 k2 => ?_).now)⟩
      have hB := HFP.out.1; have hH := HFP.out.2.1
      rw [hw q (by omega) (by simp [World.setCell]; omega)]
      have hne : w.heap.size + 1 ≠ q := by omega
      have hne' : q ≠ w.heap.size + 1 := by omega
      iterate 7 rw [Below.heap_setCell _ _ _ _ (by first | exact hne | exact hne')]
    case neg =>
      have hkk' : kk = 2 := by rw [hkk]; rfl
      subst hkk'
      clear hkk
      obtain ⟨m, hm⟩ : ∃ m, i = m + 1 := ⟨i - 1, by omega⟩
      have hpc := HCE.out (i - 1) X (HP.out (by omega))
      rw [show i - 1 = m by omega] at hpc
      have hbe3 : be < w.heap.size := cell_ltH hpc
      have hm1 : IntKind.i64.wrap ((i : Int) - 1) = (m : Int) := by rw [hm]; exact (wrapM (by omega) (by omega)).trans (by omega)
      have hm2 : (i : Int) - 1 = (m : Int) := by omega
      have hm3 : (m : Int) < (segs.length : Int) := by omega
      have hi0 : (0 : Int) < (i : Int) := by omega
      have hi1 : 0 < i := by omega
      clear hm h0
      subst hii
      go_enter Try.func21, Try.ntmps21
      go_wp2_with (go_at_call 45; refine (kidOf5 _).mono ?_; rintro e w' ⟨rfl, rfl⟩)
      refine wp_region_grow_tail 14 (fun i => if i = 3 then some (fun _ _ V ww => NewE V ww) else if i = 13 then some (fun lo hi V ww => FlP (w.heap.size + 2) M lo hi V ww) else none) (by kernel_rfl) (by kernel_rfl) ?_ ?_
      · intro i Φ h lo hi v
        (repeat' split at h) <;> cases h
        · exact NewE.up
        · exact FlP.up
      simp only [List.take_succ_cons, List.take_zero, List.drop_succ_cons, List.drop_zero]
      repeat (first
        | (refine wpGrow_skip (by rfl) ?_; simp only [Act.put, List.setIfInBounds_toArray, List.set_cons_zero, List.set_cons_succ, Nat.reduceAdd])
        | (refine wpGrow_det' (by rfl) (by rfl) ?_; apply Exists.intro; refine ⟨fun w' hc hh => ?_, ?_⟩; (have hcell := grow_cell hc; clear hc hh; go_simp; rfl); simp only [Act.put, List.setIfInBounds_toArray, List.set_cons_zero, List.set_cons_succ, Nat.reduceAdd]))
      refine wpGrow_eff' (by rfl) (by rfl) (fun w' hc hh => ?_) (fun v lo hi w' hap hc hh hv => ?_)
      · clear hc hh
        go_simp
        exact EffVal.mk ((Grow.refl _).alloc _) ⟨_, rfl⟩
      obtain ⟨h94, rfl⟩ := hv
      clear hc hh hap w'
      simp only [Act.put, List.setIfInBounds_toArray, List.set_cons_zero, List.set_cons_succ, Nat.reduceAdd]
      repeat (first
        | (refine wpGrow_skip (by rfl) ?_; simp only [Act.put, List.setIfInBounds_toArray, List.set_cons_zero, List.set_cons_succ, Nat.reduceAdd])
        | (refine wpGrow_det' (by rfl) (by rfl) ?_; apply Exists.intro; refine ⟨fun w' hc hh => ?_, ?_⟩; (have hcell := grow_cell hc; clear hc hh; go_simp; rfl); simp only [Act.put, List.setIfInBounds_toArray, List.set_cons_zero, List.set_cons_succ, Nat.reduceAdd]))
      refine wpGrow_eff' (by rfl) (by rfl) (fun w' hc hh => ?_) (fun v lo hi w' hap hc hh hv => ?_)
      · have HSZ := Lib.hid hc.size
        have HMW := Lib.hid (FSl.up _ _ HM.out (HW2.out.trans hc))
        clear hc hh
        obtain ⟨v', w2, hrun, hg2, hst2⟩ := run_append_fresh (P := Try.prog) (w := w') 22 22 36 i0 (.float .f64 0) 8 undR0 HI.out HZ0.out HZ1.out HZ2.out rfl h94 HMW.out.v (by simp; omega) (by simp; omega)
        simp [execOp, resolve, invoke, builtin, Sem.run_bind, Sem.run_pure, Act.eval, hrun]
        exact EffVal.mk hg2 ⟨by simpa using HSZ.out, Nat.le_refl _, hst2⟩
      obtain ⟨A9, c9, rfl⟩ := vslForm hv.2.2.now
      clear hv
      clear hc hh hap w'
      simp only [Act.put, List.setIfInBounds_toArray, List.set_cons_zero, List.set_cons_succ, Nat.reduceAdd]
      repeat (first
        | (refine wpGrow_skip (by rfl) ?_; simp only [Act.put, List.setIfInBounds_toArray, List.set_cons_zero, List.set_cons_succ, Nat.reduceAdd])
        | (refine wpGrow_det' (by rfl) (by rfl) ?_; apply Exists.intro; refine ⟨fun w' hc hh => ?_, ?_⟩; (have hcell := grow_cell hc; clear hc hh; go_simp; rfl); simp only [Act.put, List.setIfInBounds_toArray, List.set_cons_zero, List.set_cons_succ, Nat.reduceAdd]))
      refine wpGrow_nil ?_
      intro w1 hg hh
      obtain ⟨lo9, hi9, hfp⟩ : ∃ lo hi, FlP (w.heap.size + 2) M lo hi (.slice A9 M.length c9) w1 := by have h : FlP (w.heap.size + 2) M _ _ (.slice A9 (M.map (Value.float .f64)).length c9) w1 := (hh 13).1; rw [List.length_map] at h; exact ⟨_, _, h⟩
      have HFP := Lib.hid hfp
      clear hfp
      have r0 := up_cell (a := ⟨w.heap.size + 1, 0, none⟩) (v := .int .i64 0) (by go_simp) hg
      have r1 := up_cell (a := ⟨w.heap.size + 1, 1, none⟩) (v := .int .i64 0) (by go_simp) hg
      have r2 := up_cell (a := ⟨w.heap.size + 1, 2, none⟩) (v := .int .i64 0) (by go_simp) hg
      have r3 := up_cell (a := ⟨w.heap.size + 1, 3, none⟩) (v := .slice none 0 0) (by go_simp) hg
      have r4 := up_cell (a := ⟨w.heap.size + 1, 4, none⟩) (v := .slice none 0 0) (by go_simp) hg
      have r5 := up_cell (a := ⟨w.heap.size + 1, 5, none⟩) (v := .slice none 0 0) (by go_simp) hg
      have r6 := up_cell (a := ⟨w.heap.size + 1, 6, none⟩) (v := .slice none 0 0) (by go_simp) hg
      have f1 : ∀ o, w1.frozen? ⟨w.heap.size + 1, o, none⟩ = false := fun o => (grow_frozen hg _ _ (by simp <;> omega)).trans (by go_simp)
      have HG := Lib.hid (HW2.out.trans hg)
      clear hh hg
      go_wp2
      refine bodyPost_ret (v := GeoF 2 l 0 (.slice A9 M.length c9) (.slice none 0 0) (.slice none 0 0) (.slice none 0 0)) (by simp [results, Try.results21, go_sem, r0, r1, r2, r3, r4, r5, r6]) rfl ⟨_, rfl, (((((((HG.out).setCell (by simp) _).setCell (by simp) _).setCell (by simp) _).setCell (by simp) _).setCell (by simp) _).setCell (by simp) _).setCell (by simp) _, fun w2 hw => GV.part ((HFP.out.2.2.move fun q k1 k2 => ?_).now)⟩
      have hB := HFP.out.1; have hH := HFP.out.2.1
      rw [hw q (by omega) (by simp [World.setCell]; omega)]
      have hne : w.heap.size + 1 ≠ q := by omega
      have hne' : q ≠ w.heap.size + 1 := by omega
      iterate 7 rw [Below.heap_setCell _ _ _ _ (by first | exact hne | exact hne')]
end Go.Proofs.Ytemobphkgbhhhaa
namespace Go.Proofs.Ytemobphkgbhhhaa
open Go.RowKit Go.GrowR
set_option linter.unusedVariables false
set_option linter.unusedSimpArgs false
/-- seven cells that may be written -/
def C7 (b : Nat) (v0 v1 v2 v3 v4 v5 v6 : Value) (w : World) : Prop := w.cell? ⟨b, 0, none⟩ = some v0 ∧ w.cell? ⟨b, 1, none⟩ = some v1 ∧ w.cell? ⟨b, 2, none⟩ = some v2 ∧ w.cell? ⟨b, 3, none⟩ = some v3 ∧ w.cell? ⟨b, 4, none⟩ = some v4 ∧ w.cell? ⟨b, 5, none⟩ = some v5 ∧ w.cell? ⟨b, 6, none⟩ = some v6 ∧ ∀ o, w.frozen? ⟨b, o, none⟩ = false
section
variable {b : Nat} {v0 v1 v2 v3 v4 v5 v6 : Value}
theorem C7.same {w w' : World} (h : C7 b v0 v1 v2 v3 v4 v5 v6 w) (hb : w'.heap[b]? = w.heap[b]?) : C7 b v0 v1 v2 v3 v4 v5 v6 w' := by
  obtain ⟨h0, h1, h2, h3, h4, h5, h6, h7⟩ := h
  have k : ∀ o, w'.cell? ⟨b, o, none⟩ = w.cell? ⟨b, o, none⟩ := fun o => World.cell?_of_block (w := w) hb
  have f : ∀ o, w'.frozen? ⟨b, o, none⟩ = w.frozen? ⟨b, o, none⟩ := fun o => World.frozen?_of_block (w := w) hb
  exact ⟨(k 0).trans h0, (k 1).trans h1, (k 2).trans h2, (k 3).trans h3, (k 4).trans h4, (k 5).trans h5, (k 6).trans h6, fun o => (f o).trans (h7 o)⟩
theorem C7.up : Up (C7 b v0 v1 v2 v3 v4 v5 v6) := fun _ _ h hg => h.same (hg.block b (cell_ltH h.1))
theorem C7.set6 {w : World} (h : C7 b v0 v1 v2 v3 v4 v5 v6 w) (q : Value) : C7 b v0 v1 v2 v3 v4 v5 q (w.setCell ⟨b, 6, none⟩ q) := by
  obtain ⟨h0, h1, h2, h3, h4, h5, h6, h7⟩ := h
  exact ⟨by rw [World.cell?_setCell_other _ _ _ _ (by simp)]; exact h0, by rw [World.cell?_setCell_other _ _ _ _ (by simp)]; exact h1, by rw [World.cell?_setCell_other _ _ _ _ (by simp)]; exact h2, by rw [World.cell?_setCell_other _ _ _ _ (by simp)]; exact h3, by rw [World.cell?_setCell_other _ _ _ _ (by simp)]; exact h4, by rw [World.cell?_setCell_other _ _ _ _ (by simp)]; exact h5, World.cell?_setCell_same _ _ _ h6, fun o => by rw [World.frozen?_setCell]; exact h7 o⟩
theorem C7.setNe {w : World} (h : C7 b v0 v1 v2 v3 v4 v5 v6 w) {p : Addr} (hp : p.block ≠ b) (q : Value) : C7 b v0 v1 v2 v3 v4 v5 v6 (w.setCell p q) := h.same (Below.heap_setCell _ _ _ _ (fun e => hp (by first | exact e | exact e.symm)))
end
end Go.Proofs.Ytemobphkgbhhhaa
namespace Go.Proofs.Ytemobphkgbhhhaa
open Go.ChangeShapes Go.WideShapes Go.ChangeAt Go.RowKit Go.GrowR
set_option linter.unusedVariables false
set_option linter.unusedSimpArgs false

theorem infoIp : (Try.prog.info? 3).map (fun i => (i.zero, i.size, i.bytes)) = some (some (.int .i64 0), 1, 8) := by kernel_rfl
theorem undIp : Try.prog.underlying 25 = some (.slice 3) := by kernel_rfl
theorem iall_one (ns : List Int) : ∀ x ∈ ns.map (Value.int .i64), x.oneCell' = true := by
  intro x hx
  obtain ⟨n, -, rfl⟩ := List.mem_map.1 hx
  rfl
theorem C7.gb {b B : Nat} {v0 v1 v2 v3 v4 v5 v6 : Value} {w w' : World} (h : C7 b v0 v1 v2 v3 v4 v5 v6 w) (hg : GB B w w') (hb : b < B) : C7 b v0 v1 v2 v3 v4 v5 v6 w' := h.same (hg.block b (cell_ltH h.1) (by omega))
theorem C7.set4 {b : Nat} {v0 v1 v2 v3 v4 v5 v6 : Value} {w : World} (h : C7 b v0 v1 v2 v3 v4 v5 v6 w) (q : Value) : C7 b v0 v1 v2 v3 q v5 v6 (w.setCell ⟨b, 4, none⟩ q) := by
  obtain ⟨h0, h1, h2, h3, h4, h5, h6, h7⟩ := h
  exact ⟨by rw [World.cell?_setCell_other _ _ _ _ (by simp)]; exact h0, by rw [World.cell?_setCell_other _ _ _ _ (by simp)]; exact h1, by rw [World.cell?_setCell_other _ _ _ _ (by simp)]; exact h2, by rw [World.cell?_setCell_other _ _ _ _ (by simp)]; exact h3, World.cell?_setCell_same _ _ _ h4, by rw [World.cell?_setCell_other _ _ _ _ (by simp)]; exact h5, by rw [World.cell?_setCell_other _ _ _ _ (by simp)]; exact h6, fun o => by rw [World.frozen?_setCell]; exact h7 o⟩
theorem cum_shift (s X : Nat) : ∀ (segs : List (List (List Nat))) (o : Nat), cum s (X + o) segs = (cum s o segs).map (X + ·)
  | [], _ => rfl
  | rows :: t, o => by simp only [cum, List.map_cons]; rw [Nat.add_assoc, cum_shift s X t]
theorem GV.poly {l : Int} {V E : Value} {M : List Nat} {ns : List Int} {w : World} (h : VSl V (M.map (.float .f64)) w) (hE : VSl E (ns.map (.int .i64)) w) : GV (.mk 3 l 0 M ns [] []) (GeoF 3 l 0 V E (.slice none 0 0) (.slice none 0 0)) w := by
  unfold GV
  refine ⟨_, _, _, none, 0, rfl, Nat.le_refl _, h.f, ⟨_, hE, by simp, fun i u x hu hx => ?_⟩, ISSl.nil, .inl rfl⟩
  rw [List.getElem?_map, hx] at hu; cases hu; rfl
set_option maxRecDepth 100000 in
set_option maxHeartbeats 8000000 in
/-- a part of a multi polygon *)-/
theorem part3_calls (l r : Int) (A1 A2 A3 A4 : Option Addr) (n1 c1 n2 c2 n3 c3 n4 c4 : Nat) (s i : Nat) (ii : Int) (hii : ii = i) (segss : List (List (List (List Nat)))) (segs : List (List (List Nat))) (w : World)
    (hu : FSl (.slice A1 n1 c1) (fwd segss.flatten) w) (hE : EndRR A3 (cums s 0 segss) w) (hn3 : n3 = segss.length) (hc3 : n3 ≤ c3) (hr : ∀ segs ∈ segss, ∀ rows ∈ segs, ∀ r ∈ rows, r.length = s) (hi : segss[i]? = some segs) (hn1 : n1 ≤ 1000000000000) (hsl : segss.length ≤ 1000000000000) (hsl2 : ∀ segs ∈ segss, segs.length ≤ 1000000000000) :
    Calls Try.prog 21 #[Geo7 6 l r A1 n1 c1 A2 n2 c2 A3 n3 c3 A4 n4 c4, .int .i64 ii] w (PartQ (.mk 3 l 0 (fwd segs) ((cum s 0 segs).map Int.ofNat) [] []) w) := by
  obtain ⟨i0, hi0, hz0, hz1, hz2⟩ := info_parts infoFp
  have HI := Lib.hid hi0; have HZ0 := Lib.hid hz0; have HZ1 := Lib.hid hz1; have HZ2 := Lib.hid hz2; clear hi0 hz0 hz1 hz2
  obtain ⟨j0, hj0, hy0, hy1, hy2⟩ := info_parts infoIp
  have JI := Lib.hid hj0; have JZ0 := Lib.hid hy0; have JZ1 := Lib.hid hy1; have JZ2 := Lib.hid hy2; clear hj0 hy0 hy1 hy2
  have hil := (List.getElem?_eq_some_iff.1 hi).1
  have hdr : segss.drop i = segs :: segss.drop (i + 1) := by
    obtain ⟨hq', rfl⟩ := List.getElem?_eq_some_iff.1 hi
    exact List.drop_eq_getElem_cons hq'
  have hfl : fwd segss.flatten = fwd (segss.take i).flatten ++ fwd segs ++ fwd (segss.drop (i + 1)).flatten := by
    conv => lhs; rw [← List.take_append_drop i segss, hdr]
    simp [fwd_append, List.append_assoc]
  have hn1e : n1 = (fwd segss.flatten).length := by obtain ⟨A', c', he, -, -⟩ := hu; simp only [Value.slice.injEq] at he; exact he.2.1
  have hu2 := hu
  rw [hfl] at hu2
  obtain ⟨A', c', hM, hcut⟩ := fcut (P := Try.prog) undR0 HI.out HZ1.out hu2
  obtain ⟨X, hX⟩ : ∃ X, X = (fwd (segss.take i).flatten).length := ⟨_, rfl⟩
  have hrw := hr segs (List.mem_of_getElem? hi)
  have hsn := hsl2 segs (List.mem_of_getElem? hi)
  have hend := cums_at (s := s) (o := 0) hi
  rw [Nat.zero_add, ← hX] at hend
  have hYn : X + (fwd segs).length ≤ n1 := by
    have h1 := congrArg List.length hfl
    simp only [List.length_append] at h1
    omega
  rcases hE with h0 | ⟨be, oe, rfl, hce⟩
  · exfalso; have := congrArg List.length h0; rw [cums_len, List.length_nil] at this; omega
  obtain ⟨A5, c5, hcs, hec⟩ := hce i _ hend
  rw [cum_len] at hcs
  have hbe : be < w.heap.size := cell_ltH hcs
  have hcut' : ∀ (w' : World), (Instr.slice 22 (.slice A1 n1 c1) (some (.int .i64 X)) (some (.int .i64 ((X : Int) + (fwd segs).length))) none).run Try.prog w' = .ok (.slice A' (fwd segs).length c') w' := fun w' => by rw [hX]; exact hcut w' .i64 .i64 _ (by omega)
  have HM := Lib.hid hM; have HCE := Lib.hid hce; have HR := Lib.hid hr; have HX := Lib.hid hX; have HSL := Lib.hid hsl2; have HRW := Lib.hid hrw; have HEC := Lib.hid hec
  have HTK : Hid (∀ q, (segss.take i)[q]? = segss[q]? ∨ i ≤ q) := fun q => by
    rcases Nat.lt_or_ge q i with h | h
    · exact .inl (by rw [List.getElem?_take, if_pos h])
    · exact .inr h
  have hpc3 : ¬ c3 = 0 := by omega
  have hic3 : (i : Int) ≤ (c3 : Int) := by omega
  have hin3 : (i : Int) < (n3 : Int) := by omega
  have hil3 : i < n3 := by omega
  have HCUT := Lib.hid hcut'
  have HW2 := Lib.hid ((((Grow.refl w).alloc (Obj.cells #[.int .i64 6, .int .i64 l, .int .i64 r, .slice A1 n1 c1, .slice A2 n2 c2, .slice (some ⟨be, oe, none⟩) n3 c3, .slice A4 n4 c4] 28)).alloc (Obj.cells #[.int .i64 0, .int .i64 0, .int .i64 0, .slice none 0 0, .slice none 0 0, .slice none 0 0, .slice none 0 0] 28)))
  clear hu hu2 hM hr hX hsl2 hrw hec hcut hcut' hfl hdr hend hn1e hce
  subst hii
  have HN3 := Lib.hid hn3
  clear hn3
  go_enter Try.func21, Try.ntmps21
  go_wp2
  go_loop [5, 7, 30] (fun vf _ vi => ∃ q : Nat, q ≤ i ∧ vi = .int .i64 q ∧ vf = .int .i64 ((fwd (segss.take q).flatten).length : Nat)) (fun _ _ vi => (i - intOf vi).toNat)
  case atStart => exact ⟨0, Nat.zero_le _, rfl, by simp [fwd]⟩
  case round =>
    obtain ⟨q, hq, rfl, rfl⟩ := hrel
    by_cases hlt : q < i
    · obtain ⟨sq, hsq⟩ : ∃ p, segss[q]? = some p := ⟨segss[q]'(by have := HN3.out; omega), by have := HN3.out; simp [show q < segss.length by omega]⟩
      have hrq := HR.out sq (List.mem_of_getElem? hsq)
      have hnq := HSL.out sq (List.mem_of_getElem? hsq)
      have hcq := cums_at (s := s) (o := 0) hsq
      rw [Nat.zero_add] at hcq
      obtain ⟨Aq, cq, hcellq, hecq⟩ := HCE.out q _ hcq
      rw [cum_len] at hcellq
      have hcell2 := up_cell hcellq HW2.out
      have htk : fwd (segss.take (q + 1)).flatten = fwd (segss.take q).flatten ++ fwd sq := by
        rw [List.take_add_one, hsq]; simp [fwd_append]
      have HTQ := Lib.hid (show (fwd (segss.take (q + 1)).flatten).length = (fwd (segss.take q).flatten).length + (fwd sq).length by rw [htk, List.length_append])
      have hq1 : IntKind.i64.wrap ((q : Int) + 1) = (q : Int) + 1 := IntWalk.i64_in _ (by have := HN3.out; omega)
      by_cases h0 : sq = []
      · subst h0
        have HTZ := Lib.hid (show (fwd (segss.take (q + 1)).flatten).length = (fwd (segss.take q).flatten).length by rw [HTQ.out]; simp [fwd])
        simp only [List.length_nil] at hcell2
        clear hsq hrq hnq hcq hcellq hecq htk HTQ
        generalize (fwd (segss.take q).flatten).length = x at *
        go_wp2
        go_round
        case rel => exact ⟨q + 1, by omega, by go_num, by rw [HTZ.out]⟩
        case measure => simp [intOf]; omega
      · obtain ⟨m, hm⟩ : ∃ m, sq.length = m + 1 := ⟨sq.length - 1, by have : sq.length ≠ 0 := fun h => h0 (List.eq_nil_of_length_eq_zero h); omega⟩
        have hlast := cum_last (o := (fwd (segss.take q).flatten).length) hrq hm
        rcases hecq with h1 | ⟨b2, o2, rfl, hc2⟩
        · exfalso; have := congrArg List.length h1; rw [cum_len] at this; simp at this; exact h0 this
        have hl2 := up_cell (hc2 m _ hlast) HW2.out
        have hsl0 : (0 : Int) < (sq.length : Int) := by omega
        have hsm : IntKind.i64.wrap ((sq.length : Int) - 1) = (m : Int) := by rw [hm]; exact (wrapM (by omega) (by omega)).trans (by omega)
        have hsm2 : (sq.length : Int) - 1 = (m : Int) := by omega
        have hmlt : (m : Int) < (sq.length : Int) := by omega
        have hne : 0 < sq.length := by omega
        clear hsq hrq hcq hcellq htk hc2 hlast hm h0
        generalize sq.length = sl at *
        generalize (fwd (segss.take q).flatten).length = x at *
        generalize x + (fwd sq).length = y at *
        go_wp2
        go_round
        case rel => exact ⟨q + 1, by omega, by go_num, by rw [HTQ.out]⟩
        case measure => simp [intOf]; omega
    · have hqe : q = i := by omega
      subst hqe
      have HXX := Lib.hid HX.out
      have HW3 := Lib.hid (HW2.out.alloc (Obj.cells #[.int .i64 3, .int .i64 l, .int .i64 0, .slice none 0 0, .slice none 0 0, .slice none 0 0, .slice none 0 0] 28))
      have hcsA := up_cell hcs HW3.out
      rw [← HX.out]
      have hsn0 : segs.length ≤ 1000000000000 := hsn
      clear hlt hcs
      have HC0 : Hid (C7 (w.heap.size + 2) (.int .i64 3) (.int .i64 l) (.int .i64 0) (.slice none 0 0) (.slice none 0 0) (.slice none 0 0) (.slice none 0 0) (((w.alloc (Obj.cells #[.int .i64 6, .int .i64 l, .int .i64 r, .slice A1 n1 c1, .slice A2 n2 c2, .slice (some ⟨be, oe, none⟩) n3 c3, .slice A4 n4 c4] 28)).alloc (Obj.cells #[.int .i64 0, .int .i64 0, .int .i64 0, .slice none 0 0, .slice none 0 0, .slice none 0 0, .slice none 0 0] 28)).alloc (Obj.cells #[.int .i64 3, .int .i64 l, .int .i64 0, .slice none 0 0, .slice none 0 0, .slice none 0 0, .slice none 0 0] 28))) := ⟨by go_simp, by go_simp, by go_simp, by go_simp, by go_simp, by go_simp, by go_simp, fun o => by go_simp⟩
      have HB0 : Hid (C7 w.heap.size (.int .i64 6) (.int .i64 l) (.int .i64 r) (.slice A1 n1 c1) (.slice A2 n2 c2) (.slice (some ⟨be, oe, none⟩) n3 c3) (.slice A4 n4 c4) (((w.alloc (Obj.cells #[.int .i64 6, .int .i64 l, .int .i64 r, .slice A1 n1 c1, .slice A2 n2 c2, .slice (some ⟨be, oe, none⟩) n3 c3, .slice A4 n4 c4] 28)).alloc (Obj.cells #[.int .i64 0, .int .i64 0, .int .i64 0, .slice none 0 0, .slice none 0 0, .slice none 0 0, .slice none 0 0] 28)).alloc (Obj.cells #[.int .i64 3, .int .i64 l, .int .i64 0, .slice none 0 0, .slice none 0 0, .slice none 0 0, .slice none 0 0] 28))) := ⟨by go_simp, by go_simp, by go_simp, by go_simp, by go_simp, by go_simp, by go_simp, fun o => by go_simp⟩
      have HB1 : Hid (C7 (w.heap.size + 1) (.int .i64 0) (.int .i64 0) (.int .i64 0) (.slice none 0 0) (.slice none 0 0) (.slice none 0 0) (.slice none 0 0) (((w.alloc (Obj.cells #[.int .i64 6, .int .i64 l, .int .i64 r, .slice A1 n1 c1, .slice A2 n2 c2, .slice (some ⟨be, oe, none⟩) n3 c3, .slice A4 n4 c4] 28)).alloc (Obj.cells #[.int .i64 0, .int .i64 0, .int .i64 0, .slice none 0 0, .slice none 0 0, .slice none 0 0, .slice none 0 0] 28)).alloc (Obj.cells #[.int .i64 3, .int .i64 l, .int .i64 0, .slice none 0 0, .slice none 0 0, .slice none 0 0, .slice none 0 0] 28))) := ⟨by go_simp, by go_simp, by go_simp, by go_simp, by go_simp, by go_simp, by go_simp, fun o => by go_simp⟩
      have HSZ3 := Lib.hid (show w.heap.size + 3 ≤ (((w.alloc (Obj.cells #[.int .i64 6, .int .i64 l, .int .i64 r, .slice A1 n1 c1, .slice A2 n2 c2, .slice (some ⟨be, oe, none⟩) n3 c3, .slice A4 n4 c4] 28)).alloc (Obj.cells #[.int .i64 0, .int .i64 0, .int .i64 0, .slice none 0 0, .slice none 0 0, .slice none 0 0, .slice none 0 0] 28)).alloc (Obj.cells #[.int .i64 3, .int .i64 l, .int .i64 0, .slice none 0 0, .slice none 0 0, .slice none 0 0, .slice none 0 0] 28)).heap.size by simp)
      go_wp2
      clear hcsA
      generalize (((w.alloc (Obj.cells #[.int .i64 6, .int .i64 l, .int .i64 r, .slice A1 n1 c1, .slice A2 n2 c2, .slice (some ⟨be, oe, none⟩) n3 c3, .slice A4 n4 c4] 28)).alloc (Obj.cells #[.int .i64 0, .int .i64 0, .int .i64 0, .slice none 0 0, .slice none 0 0, .slice none 0 0, .slice none 0 0] 28)).alloc (Obj.cells #[.int .i64 3, .int .i64 l, .int .i64 0, .slice none 0 0, .slice none 0 0, .slice none 0 0, .slice none 0 0] 28)) = W at *
      go_loopw [9, 11, 54] (fun vt _ vi wr => ∃ q : Nat, q ≤ segs.length ∧ vi = .int .i64 q ∧ vt = .int .i64 ((X + (fwd (segs.take q)).length : Nat)) ∧ ∃ V, C7 (w.heap.size + 2) (.int .i64 3) (.int .i64 l) (.int .i64 0) (.slice none 0 0) V (.slice none 0 0) (.slice none 0 0) wr ∧ VOwn 3 (w.heap.size + 3) V ((((cum s 0 segs).take q).map Int.ofNat).map (.int .i64)) wr ∧ Below (w.heap.size + 2) W wr) (fun _ _ vi _ => (segs.length - intOf vi).toNat)
      case atStart => exact ⟨0, Nat.zero_le _, rfl, by simp [fwd], _, HC0.out, VOwn.nil, Below.refl _ _⟩
      case round =>
        obtain ⟨p, hp, rfl, rfl, V, hc7, hown, hgb⟩ := hrel
        have HC7 := Lib.hid hc7; have HOW := Lib.hid hown; have HGB := Lib.hid hgb
        obtain ⟨AV, nV, cV, rfl⟩ := VOwn.isSl hown
        clear hc7 hown hgb
        by_cases hlt : p < segs.length
        · obtain ⟨rows, hrows⟩ : ∃ q, segs[p]? = some q := ⟨segs[p], by simp [hlt]⟩
          have hex := cum_at (o := X) HRW.out hrows
          have he0 := cum_at (o := 0) HRW.out hrows
          rw [Nat.zero_add] at he0
          rcases HEC.out with h0 | ⟨b5, o5, rfl, hc5⟩
          · exfalso; have := congrArg List.length h0; rw [cum_len, List.length_nil] at this; omega
          have hb5 : b5 < w.heap.size := cell_ltH (hc5 p _ hex)
          have hcl : wr.cell? ⟨b5, o5 + p, none⟩ = some (.int .i64 ((X + (fwd (segs.take p)).length + rows.length * s : Nat) : Int)) := (HGB.out.cell (by simp; omega)).trans (up_cell (hc5 p _ hex) HW3.out)
          have hfr := HRW.out rows (List.mem_of_getElem? hrows)
          have hse : fwd (segs.take (p + 1)) = fwd (segs.take p) ++ rows.flatten := fwd_snoc hrows
          have hXE := Lib.hid (show X + (fwd (segs.take (p + 1))).length = X + (fwd (segs.take p)).length + rows.length * s by rw [hse, List.length_append, flat_len hfr]; omega)
          have hle : X + (fwd (segs.take p)).length + rows.length * s ≤ n1 := by
            have h1 : (fwd segs).length = (fwd (segs.take p)).length + rows.length * s + (fwd (segs.drop (p + 1))).length := by rw [seg_flat hrows]; simp only [List.length_append, flat_len hfr]
            omega
          obtain ⟨d, hd⟩ : ∃ d, d = (fwd (segs.take p)).length + rows.length * s := ⟨_, rfl⟩
          rw [← hd] at he0
          have hxd : X + (fwd (segs.take p)).length + rows.length * s = X + d := by omega
          rw [hxd] at hcl hle
          have HXE := Lib.hid (hXE.out.trans hxd)
          have HTK2 := Lib.hid (show ((cum s 0 segs).take (p + 1)).map Int.ofNat = ((cum s 0 segs).take p).map Int.ofNat ++ [(d : Int)] by rw [List.take_add_one, he0]; simp)
          have hdb : d ≤ 1000000000000 := by omega
          have hs1 : ((X + d : Nat) : Int) - (X : Int) = (d : Int) := by omega
          have hs3 : IntKind.i64.wrap (d : Int) = (d : Int) := wrapM (by omega) (by omega)
          have hs2 : IntKind.i64.wrap (((X + d : Nat) : Int) - (X : Int)) = (d : Int) := by rw [hs1]; exact wrapM (by omega) (by omega)
          have hq1 : IntKind.i64.wrap ((p : Int) + 1) = (p : Int) + 1 := IntWalk.i64_in _ (by omega)
          obtain ⟨y0, y1, y2, y3, y4, y5, y6, y7⟩ := HC7.out
          have HNE := Lib.hid (VOwn.lt HOW.out)
          have hsz : w.heap.size + 3 ≤ wr.heap.size := Nat.le_trans HSZ3.out HGB.out.size
          have hwb : w.heap.size + 2 < wr.heap.size := by omega
          have hlen : (((cum s 0 segs).take p).map Int.ofNat).length ≤ 1000000000000 := by simp [cum_len]; omega
          have HLEN := Lib.hid (show p + 1 ≤ segs.length by omega)
          have hbe2 : ¬ (w.heap.size + 2 = b5) := by omega
          clear hrows hex he0 hc5 hfr hse hXE hd hxd hle hlt
          generalize ((cum s 0 segs).take p).map Int.ofNat = ns at *
          generalize X + d = y at *
          go_wp2_with (at_builtin; refine wpList_append_vsl rfl _ _ 25 rfl (w.heap.size + 3) 3 j0 (.int .i64 0) 8 undIp JI.out JZ0.out JZ1.out JZ2.out rfl rfl (VOwn.up _ _ HOW.out ((Grow.refl wr).alloc _)) rfl (VSl.one (u := .int .i64 (d : Int)) (by go_simp)) (by intro x hx; simp at hx; subst hx; rfl) (by simp [maxLen]; omega) (by simp; omega) (by simp; omega) ?_; intro V' w5 hown5 hgrow5 hwh5; have H5 := Lib.hid hown5; have hbk : w5.heap[w.heap.size + 2]? = wr.heap[w.heap.size + 2]? := (hgrow5.block (w.heap.size + 2) (by simp; omega) (fun e => by have := HNE.out _ e.symm; omega)).trans (Below.heap_alloc _ _ _ hwb); have HK5 := Lib.hid (HC7.out.same hbk); have z4 : w5.cell? ⟨w.heap.size + 2, 4, none⟩ = some (.slice AV nV cV) := HK5.out.2.2.2.2.1; have z7 : w5.frozen? ⟨w.heap.size + 2, 4, none⟩ = false := HK5.out.2.2.2.2.2.2.2 4; have HB5 := Lib.hid (Below.grown (HGB.out.alloc (by omega) (Obj.cells #[.int .i64 (d : Int)] 3)) hgrow5 (by simp; omega) (fun k hk => by have := HNE.out k hk; omega)); obtain ⟨A6, n6, c6, rfl⟩ := VOwn.isSl hown5; clear hown5 hgrow5 hwh5 hbk)
          go_roundw
          case rel => exact ⟨p + 1, HLEN.out, by go_num, by rw [HXE.out], _, HK5.out.set4 _, by rw [HTK2.out, List.map_append]; exact H5.out.setCell (by simp) _, HB5.out.setCell (by simp) _⟩
          case measure => simp [intOf]; omega
        · have hpe : p = segs.length := by omega
          subst hpe
          simp only [List.take_length] at *
          have hgw : Grow w wr := Below.trans HW3.out (HGB.out.mono (by omega))
          have HGW := Lib.hid hgw
          have b0 := HB0.out.same (HGB.out.block w.heap.size (by omega))
          have b1 := HB1.out.same (HGB.out.block (w.heap.size + 1) (by omega))
          have hsz : w.heap.size + 3 ≤ wr.heap.size := Nat.le_trans HSZ3.out HGB.out.size
          have hcut := HCUT.out
          obtain ⟨-, x1, -, x3, -, -, -, -⟩ := b0
          have HT4 := Lib.hid b1; have HT8 := HC7
          obtain ⟨y0, y1, y2, y3, y4, y5, y6, y7⟩ := HC7.out
          have HMW := Lib.hid (FSl.up _ _ HM.out (hgw.alloc (Obj.cells #[] 36)))
          have hl1 : (fwd segs).length ≤ 1000000000000 := by omega
          have HTK9 := Lib.hid (show (cum s 0 segs).take segs.length = cum s 0 segs from List.take_of_length_le (by rw [cum_len]; exact Nat.le_refl _))
          have hw0 : w.heap.size < wr.heap.size := by omega
          have hw1 : w.heap.size + 1 < wr.heap.size := by omega
          have hw2 : w.heap.size + 2 < wr.heap.size := by omega
          have HSZ9 := Lib.hid hsz
          clear hgw b1 hsz hlt hp
          generalize fwd segs = M at *
          go_wp2_with (at_builtin; refine wpList_append_fresh rfl _ _ 22 rfl 36 i0 (.float .f64 0) 8 undR0 HI.out HZ0.out HZ1.out HZ2.out rfl wr.heap.size rfl rfl HMW.out.v (by simp; omega) (by simp; omega) ?_; intro v' w5 hg5 hst5; have HG5A := Lib.hid hg5; have HG5 := Lib.hid (((Grow.refl wr).alloc (Obj.cells #[] 36)).trans hg5); have HST5 := Lib.hid hst5; obtain ⟨A9, c9, h9⟩ := vslForm hst5.now; rw [List.length_map] at h9; subst h9; obtain ⟨z0, z1, z2, z3, z4, z5, z6, z7⟩ := C7.up _ _ HT8.out HG5.out; obtain ⟨u0, u1, u2, u3, u4, u5', u6, u7'⟩ := C7.up _ _ HT4.out HG5.out; have z73 := z7 3; clear hg5 hst5 x1 x3 y0 y1 y2 y3 y4 y5 y6 y7)
          refine bodyPost_ret (v := GeoF 3 l 0 (.slice A9 M.length c9) (.slice AV nV cV) (.slice none 0 0) (.slice none 0 0)) (by simp [results, Try.results21, go_sem, z0, z1, z2, z3, z4, z5, z6, u0, u1, u2, u3, u4, u5', u6]) rfl ⟨_, rfl, (((((((((HGW.out.trans HG5.out)).setCell (by simp <;> omega) _).setCell (by simp <;> omega) _).setCell (by simp <;> omega) _).setCell (by simp <;> omega) _).setCell (by simp <;> omega) _).setCell (by simp <;> omega) _).setCell (by simp <;> omega) _).setCell (by simp <;> omega) _, fun w2 hw => ?_⟩
          have hz5 := HG5.out.size
          have hz9 := HSZ9.out
          have kept : ∀ k, w.heap.size + 3 ≤ k → k < w5.heap.size → w2.heap[k]? = w5.heap[k]? := fun k k1 k2 => by
            rw [hw k (by omega) (by simp [World.setCell]; omega)]
            have hne : w.heap.size + 1 ≠ k := by omega
            have hne' : k ≠ w.heap.size + 1 := by omega
            have hne2 : w.heap.size + 2 ≠ k := by omega
            have hne2' : k ≠ w.heap.size + 2 := by omega
            iterate 8 rw [Below.heap_setCell _ _ _ _ (by first | exact hne | exact hne' | exact hne2 | exact hne2')]
          refine GV.poly ((HST5.out.move fun k k1 k2 => kept k (by simp at k1; omega) k2).now) ?_
          have ho5 := VOwn.up _ _ (VOwn.up _ _ HOW.out ((Grow.refl wr).alloc (Obj.cells #[] 36))) (show Grow (wr.alloc (Obj.cells #[] 36)) w5 from HG5A.out)
          have := VOwn.sl (Stab.own ho5 (Nat.le_refl _) (Nat.le_refl _) w2 kept)
          rwa [HTK9.out] at this
end Go.Proofs.Ytemobphkgbhhhaa
