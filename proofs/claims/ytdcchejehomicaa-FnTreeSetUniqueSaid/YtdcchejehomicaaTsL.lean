import Derived.Test.YtdcchejehomicaaTsJ
namespace Go.Proofs.Ytdcchejehomicaa
open Go.ChangeShapes Go.WideShapes Go.ChangeAt Go.RowKit Go.GrowR
set_option linter.unusedVariables false
set_option linter.unusedSimpArgs false

/-- a piece of code that does not panic: what is behind a panic need not be shown -/
theorem wp_normal {P : Program} {c : Code} {Q : Exit → Act → World → Prop} {a : Act} {w : World} (h : c.wp P (Exit.then (fun a w => Q .normal a w) fun _ _ _ => False) a w) : c.wp P Q a w :=
  Code.wp_mono (fun e a w hq => by cases e <;> first | exact hq | exact False.elim hq) h
theorem infoB : (Try.prog.info? 4).map (fun i => (i.zero, i.size, i.bytes)) = some (some (.bool false), 1, 1) := by kernel_rfl
theorem undBs : Try.prog.underlying 27 = some (.slice 4) := by kernel_rfl
def TsQ (rows : List (List Nat)) (w : World) (e : Ending) (w' : World) : Prop := ∃ Va V, e = .returned (.tuple #[Va, V, .bool true]) ∧ Grow w w' ∧ FSl V rows.flatten w'
set_option maxRecDepth 100000 in
set_option maxHeartbeats 16000000 in
theorem treeSet_calls (v : Value) (s : Nat) (lay c : Int) (rows : List (List Nat)) (w : World) (hv : FSl v rows.flatten w) (hl : ∀ r ∈ rows, r.length = s) (h1 : 1 ≤ lay) (h9 : lay ≤ 9) (hs : strideN lay = s) (s2 : 2 ≤ s) (s9 : s ≤ 9) (hn : rows.length * s ≤ 1000) :
    Calls Try.prog 7 #[.int .i64 lay, .int .i64 c, v] w (TsQ (tsAll c rows).t.rows w) := by
  have hmf : ∀ (fn : Fn) (first cap : Array Value) (w : World), (Instr.makeFunc fn first cap).run Try.prog w = .ok (.func fn first cap) w := fun _ _ _ _ => rfl
  obtain ⟨i0, hi, hz0, hz1, hz2⟩ := info_parts infoB
  have HI := Lib.hid hi; have HZ0 := Lib.hid hz0; have HZ1 := Lib.hid hz1; have HZ2 := Lib.hid hz2
  have hfl := flat_len hl
  have hrl : rows.length ≤ 1000 := by have := Nat.mul_le_mul_left rows.length s2; omega
  have HSTR := Lib.hid (fun w => layStride lay s w h1 h9 hs)
  have HNS := Lib.hid (fun w => newSet_calls s lay c w h1 h9 hs)
  have HTF := Lib.hid (fun lo hi s0 F w' (h : SetS lo hi s s0 lay c (tsAll c rows).t F w') => toFlat_calls lo hi s s0 lay c (tsAll c rows).t F w' h h1 h9 hs s2 s9 (by rw [tsAll_size]; have := tsAll_le c rows; omega))
  have hrows : (tsAll c rows).t.rows.flatten.length ≤ 17592186044416 := by
    have h1 : (tsAll c rows).t.rows.flatten.length = (tsAll c rows).t.rows.length * s := flat_len fun r hr => hl r ((tsAll_mem c rows).2 r hr)
    have h2 : (tsAll c rows).t.rows.length ≤ rows.length := by rw [BT.rows_len, tsAll_size]; exact tsAll_le c rows
    have h3 := Nat.mul_le_mul_right s h2
    omega
  have HPL := Lib.hid hrows
  have HRL := Lib.hid hrl
  clear hrows
  have HV := Lib.hid hv
  obtain ⟨A, cc, rfl, -, -⟩ := hv
  rw [hfl] at HV ⊢
  obtain ⟨n, hnn⟩ : ∃ n, n = rows.length * s := ⟨_, rfl⟩
  have HDI := Lib.hid (fun w' (hg : Grow w w') => doorInflate_calls A n cc s rows w' (FSl.up _ _ (by rw [hnn]; exact HV.out) hg) hl (by omega) s9 hnn (by omega))
  have HL := Lib.hid hl
  rw [← hnn] at HV ⊢
  clear hi hz0 hz1 hz2 hl hfl hn hnn hs
  go_enter_defers Try.func7, Try.ntmps7
  go_wp2_with fail
  refine (HNS.out _).mono ?_
  rintro e w1 ⟨rfl, hg1, hsc⟩
  have HRC := Lib.hid (RC3.up _ _ (RC3.start w (.slice none 0 0) (.slice none 0 0) (.bool false) 27 22 4) hg1)
  have hsz : (((w.alloc (.cells #[.slice none 0 0] 27)).alloc (.cells #[.slice none 0 0] 22)).alloc (.cells #[.bool false] 4)).heap.size = w.heap.size + 3 := by simp
  rw [hsz] at hsc ⊢
  have HG1 := Lib.hid (((((Grow.refl w).alloc _).alloc _).alloc _).trans hg1)
  have HSC := Lib.hid hsc
  clear hg1 hsc
  go_wp2_with fail
  refine (HSTR.out _).mono ?_
  rintro e w1 ⟨rfl, rfl⟩
  go_wp2_with fail
  refine (HDI.out _ HG1.out).mono ?_
  rintro e w2 ⟨V2, rfl, hg2, hst2⟩
  obtain ⟨A2, c2, rfl⟩ := L1.form hst2.now
  have hs0 : w.heap.size + 3 < w1.heap.size := cell_ltH HSC.out.c0
  have HTQ : Hid (TQ w w1.heap.size w2.heap.size s (w.heap.size + 3) lay c (tsAll c (rows.take 0)) [] (.slice none 0 0) w2) :=
    ⟨HG1.out.trans hg2, RC3.up _ _ HRC.out hg2, ⟨Nat.le_refl _, by omega, by simp, .pointer none, HSC.out.move (hg2.block _ hs0), rfl, rfl⟩, VOwn.nil, by simp [Value.ownBlock], fun k hk => by simp at hk; omega, .inl (by omega)⟩
  have HST := Lib.hid hst2
  have HSS := Lib.hid hg2.size
  clear hg2 hst2 HRC HSC HG1
  go_wp2
  go_loopw [22] (fun i wr => ∃ (k : Nat) (F : List Nat) (V : Value), i = .int .i64 k ∧ k ≤ rows.length ∧ TQ w w1.heap.size w2.heap.size s (w.heap.size + 3) lay c (tsAll c (rows.take k)) F V wr ∧ (∀ j, w1.heap.size ≤ j → j < w2.heap.size → wr.heap[j]? = w2.heap[j]?)) (fun i _ => rows.length - (intOf i).toNat)
  case atStart => exact ⟨0, [], _, rfl, Nat.zero_le _, HTQ.out, fun _ _ _ => rfl⟩
  case round =>
    obtain ⟨k, F, V, rfl, hk, hq, hsame⟩ := hrel
    have HQ := Lib.hid hq; have HSA := Lib.hid hsame
    clear HTQ
    by_cases hlt : k < rows.length
    case pos =>
      obtain ⟨r, hr⟩ : ∃ r, rows[k]? = some r := ⟨rows[k], by simp [hlt]⟩
      have hrs := HL.out r (List.mem_of_getElem? hr)
      obtain ⟨b, o, c3, u, hA, hlo, hhi, hu, hvs⟩ := stab_elem HST.out hr hrs.symm
      cases hA
      have hu' := (World.cell?_of_block (a := ⟨b, o + k, none⟩) (hsame b hlo hhi)).trans hu
      have hvs' := VS.move hvs hsame
      have hstep := tsAll_take c rows k r hr
      have HSTP := Lib.hid hstep
      have hszl : (tsAll c (rows.take k)).t.size ≤ k := by rw [tsAll_size]; have := tsAll_le c (rows.take k); rw [List.length_take] at this; omega
      have hadl : (tsAll c (rows.take k)).ad.length = k := by rw [tsAll_ad, List.length_take]; omega
      have HAD := Lib.hid hadl
      obtain ⟨Au, cu, rfl, -, -⟩ := id hvs'
      obtain ⟨bb, hbb⟩ : ∃ bb, bb = (BT.ins c r (tsAll c (rows.take k)).t).2 := ⟨_, rfl⟩
      have HBB := Lib.hid hbb.symm
      have HIN : Hid (∀ w', Grow wr w' → Calls Try.prog 19 #[.pointer (some ⟨w.heap.size + 3, 0, none⟩), .slice Au s cu] w' fun e w9 => ∃ F', e = .returned (.bool bb) ∧ FrF ((w.heap.size + 3) :: F) w' w9 ∧ SetS w1.heap.size w2.heap.size s (w.heap.size + 3) lay c (BT.ins c r (tsAll c (rows.take k)).t).1 F' w9 ∧ ∀ k ∈ F', k ∈ F ∨ w'.heap.size ≤ k) := by
        rw [hbb]
        exact (fun w' (hg : Grow wr w') => insert_calls w1.heap.size w2.heap.size s (w.heap.size + 3) lay c r _ (tsAll c (rows.take k)).t F w' (SetS.up _ _ hq.st hg) (hvs'.move fun j h1 h2 => hg.block j (by have := hq.st.hh; omega)) s2 s9 (by omega))
      have hks : (k : Int) < (rows.length : Int) := by omega
      obtain ⟨A6, c6, rfl, -⟩ := VOwn.slf hq.ow
      rw [List.length_map, hadl] at HQ hq
      have k0 := hq.rc.c0
      have kf := hq.rc.f0
      clear hbb hr hrs hvs hvs' hstep hszl hadl hu hlo hhi hq hsame
      go_wp2
      refine wp_normal ?_
      go_region_law (first
        | (go_simp; go_at_call 19; refine (HIN.out _ (by repeat (first | exact Grow.refl _ | refine Grow.drew ?_ | refine Grow.alloc ?_ _))).mono ?_; rintro e w4 ⟨F4, rfl, hf4, hs4, hF4⟩; have hti := (TQ.up _ _ HQ.out (by repeat (first | exact Grow.refl _ | refine Grow.drew ?_ | refine Grow.alloc ?_ _))).ins hf4 hs4 hF4; have HTI := Lib.hid hti; have k0' := hti.rc.c0; have kf' := hti.rc.f0; have klt : w.heap.size < w4.heap.size := cell_ltH k0'; have HFR := Lib.hid hf4; clear hti hf4 hs4 hF4)
        | (refine step_append_vsl rfl _ _ 27 rfl (w.heap.size + 3) 4 i0 (.bool false) 1 undBs HI.out HZ0.out HZ1.out HZ2.out rfl rfl (VOwn.up _ _ HTI.out.ow (by repeat (first | exact Grow.refl _ | refine Grow.drew ?_ | refine Grow.alloc ?_ _))) rfl (VSl.one (u := .bool bb) (by go_simp)) (by intro x hx; simp at hx; subst hx; rfl) (by have := HAD.out; simp [maxLen]; omega) (by have := HAD.out; simp; omega) (by have := HTI.out.rc.lt; simp; omega) ?_; intro V' w5 hown5 hgrow5 hwh5; obtain ⟨hr5, ht5, hj5⟩ := HTI.out.step HBB.out (by repeat (first | exact Grow.refl _ | refine Grow.drew ?_ | refine Grow.alloc ?_ _)) hown5 hgrow5 hwh5; have q0 := hr5.c0; have qf := hr5.f0; obtain ⟨A5, c5, e5, -⟩ := VOwn.slf hown5; simp only [List.length_append, List.length_map, HAD.out, List.length_cons, List.length_nil] at e5; subst e5; have HT5 := Lib.hid ht5; have HJ5 := Lib.hid hj5; clear hr5 ht5 hj5 hown5 hgrow5 hwh5))
      all_goals
        go_wp2
        go_roundw
        case rel => exact ⟨k + 1, F4, _, by go_num, by omega, by rw [HSTP.out]; exact HT5.out, fun j h1 h2 => (HJ5.out j h1 h2).trans (((TQ.up _ _ HQ.out (Grow.refl wr).drew).keep HFR.out j h1 h2).trans (HSA.out j h1 h2))⟩
        case measure => simp [intOf]; omega
    case neg =>
      have HK : Hid (k = rows.length) := by show k = _; omega
      have hq' := hq
      rw [show rows.take k = rows by rw [HK.out]; exact List.take_of_length_le (Nat.le_refl _)] at hq'
      have HQ' := Lib.hid hq'
      have HTO := Lib.hid (fun w' (hg : Grow wr w') => HTF.out _ _ _ F w' (SetS.up _ _ hq'.st hg))
      have k0 := hq'.rc.c0; have k1 := hq'.rc.c1; have k2 := hq'.rc.c2; have kf0 := hq'.rc.f0; have kf1 := hq'.rc.f1; have kf2 := hq'.rc.f2
      obtain ⟨A6, c6, e6, -⟩ := VOwn.slf hq'.ow
      rw [List.length_map, tsAll_ad] at e6
      subst e6
      have hlt3 := hq'.rc.lt
      have HGR := Lib.hid hq'.gr
      have hrl' := HRL.out
      clear hq hq' hsame HQ HSA hrl'
      go_wp2
      refine wp_normal ?_
      go_region_law (first
        | (go_simp; go_at_call 20; refine (HTO.out _ (by repeat (first | exact Grow.refl _ | refine Grow.drew ?_ | refine Grow.alloc ?_ _))).mono ?_; rintro e w4 ⟨V4, rfl, hg4, ho4⟩; have HG4 := Lib.hid (show Grow wr w4 from Grow.trans (by repeat (first | exact Grow.refl _ | refine Grow.drew ?_ | refine Grow.alloc ?_ _)) hg4); have HF4 := Lib.hid (floats_calls44 V4 _ w4 (VOwn.sl ho4).f HPL.out); have y0 := up_cell k0 HG4.out; have hz4 : w.heap.size < w4.heap.size := cell_ltH y0; clear hg4 ho4)
        | (go_simp; go_at_call 13; refine HF4.out.mono ?_; rintro e w5 ⟨V5, rfl, hg5, ho5⟩; have HG5 := Lib.hid (HG4.out.trans hg5); obtain ⟨A5, c5, e5, -⟩ := VOwn.slf ho5; obtain ⟨m, hm⟩ : ∃ m, m = ((tsAll c rows).t.rows.flatten.map (Value.float .f64)).length := ⟨_, rfl⟩; rw [← hm] at e5; subst e5; clear hm; have HO5 := Lib.hid ho5; have z0 := up_cell k0 HG5.out; have z1 := up_cell k1 HG5.out; have z2 := up_cell k2 HG5.out; have g0 := (grow_frozen HG5.out _ 0 (by omega : w.heap.size < wr.heap.size)).trans kf0; have g1 := (grow_frozen HG5.out _ 0 (by omega : w.heap.size + 1 < wr.heap.size)).trans kf1; have g2 := (grow_frozen HG5.out _ 0 (by omega : w.heap.size + 2 < wr.heap.size)).trans kf2; clear hg5 ho5))
      all_goals
        have p0 : (((w5.setCell ⟨w.heap.size, 0, none⟩ (.slice A6 rows.length c6)).setCell ⟨w.heap.size + 1, 0, none⟩ (.slice A5 m c5)).setCell ⟨w.heap.size + 1 + 1, 0, none⟩ (.bool true)).cell? ⟨w.heap.size, 0, none⟩ = some (.slice A6 rows.length c6) := far_cell (far_cell (World.cell?_setCell_same _ _ _ z0) (by simp)) (by simp <;> omega)
        have p1 : (((w5.setCell ⟨w.heap.size, 0, none⟩ (.slice A6 rows.length c6)).setCell ⟨w.heap.size + 1, 0, none⟩ (.slice A5 m c5)).setCell ⟨w.heap.size + 1 + 1, 0, none⟩ (.bool true)).cell? ⟨w.heap.size + 1, 0, none⟩ = some (.slice A5 m c5) := far_cell (World.cell?_setCell_same _ _ _ (far_cell z1 (by simp))) (by simp)
        have p2 : (((w5.setCell ⟨w.heap.size, 0, none⟩ (.slice A6 rows.length c6)).setCell ⟨w.heap.size + 1, 0, none⟩ (.slice A5 m c5)).setCell ⟨w.heap.size + 1 + 1, 0, none⟩ (.bool true)).cell? ⟨w.heap.size + 1 + 1, 0, none⟩ = some (.bool true) := World.cell?_setCell_same _ _ _ (far_cell (far_cell z2 (by simp <;> omega)) (by simp))
        have HGW := Lib.hid ((HGR.out.trans HG5.out).setCell (p := ⟨w.heap.size, 0, none⟩) (Nat.le_refl _) (.slice A6 rows.length c6))
        have hzz : w.heap.size + 3 ≤ w4.heap.size := by have := HG4.out.size; omega
        clear z0 z1 z2 g0 g1 g2
        go_wp2
        refine leaves_cons (f := 15) (args := #[.pointer (some ⟨w.heap.size, 0, none⟩), .pointer (some ⟨w.heap.size + 1, 0, none⟩), .pointer (some ⟨w.heap.size + 1 + 1, 0, none⟩)]) (by simp) (by simp [go_sem]) ?_
        refine (idleTs ⟨w.heap.size, 0, none⟩ ⟨w.heap.size + 1, 0, none⟩ ⟨w.heap.size + 1 + 1, 0, none⟩ _).mono ?_
        rintro e u' w'' ⟨rfl, rfl, rfl⟩
        exact ⟨.tuple #[.slice A6 rows.length c6, .slice A5 m c5, .bool true], by simp [results, Try.results7, go_sem, p0, p1, p2], _, _, rfl, (HGW.out.setCell (by simp) _).setCell (by simp <;> omega) _, fsl_below HO5.out fun k hk => (set_far (by simp; omega)).trans ((set_far (by simp; omega)).trans (set_far (by simp; omega)))⟩
end Go.Proofs.Ytdcchejehomicaa
