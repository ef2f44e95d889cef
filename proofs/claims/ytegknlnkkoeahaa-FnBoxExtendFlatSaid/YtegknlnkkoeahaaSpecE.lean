import Derived.Test.YtegknlnkkoeahaaNewB
import Derived.Test.YtegknlnkkoeahaaExtC
import Derived.Test.YtegknlnkkoeahaaGoodA
import Derived.BigRegion
import Derived.Deep.QuietTactic
import Derived.BigQuiet
namespace Go.Proofs.Ytegknlnkkoeahaa
open Go.ChangeShapes Go.WideShapes Go.ChangeAt Go.RowKit Go.GrowR
set_option linter.unusedVariables false
set_option linter.unusedSimpArgs false

set_option maxHeartbeats 1000000 in
theorem cover_same (n : Int) (w : World) : Calls Try.prog 76 #[.int .i64 n, .int .i64 n] w fun e w' => e = .returned (.int .i64 n) ∧ w' = w := by
  have hm : ∀ ts t w, (Builtin.max_ ts t #[.int .i64 n, .int .i64 n]).run Try.prog w = .ok (.int .i64 n) w := fun ts t w => by
    simp [Builtin.max_, Builtin.max2, go_sem]
  by_cases h2 : n = 2
  · subst h2
    go_enter Try.func76, Try.ntmps76
    go_wp2
    go_ret
    exact ⟨rfl, rfl⟩
  by_cases h3 : n = 3
  · subst h3
    go_enter Try.func76, Try.ntmps76
    go_wp2
    go_ret
    exact ⟨rfl, rfl⟩
  have e2 : (n == 2) = false := by rw [beq_eq_false_iff_ne]; exact h2
  have e3 : (n == 3) = false := by rw [beq_eq_false_iff_ne]; exact h3
  clear h2 h3
  go_enter Try.func76, Try.ntmps76
  go_wp2
  go_ret
  exact ⟨rfl, rfl⟩
theorem boxCover_same (n : Int) (w : World) : Calls Try.prog 49 #[.int .i64 n, .int .i64 n] w fun e w' => e = .returned (.int .i64 n) ∧ w' = w := by
  go_enter Try.func49, Try.ntmps49
  go_wp2_with (go_at_call 76; refine (cover_same _ _).mono ?_; rintro e w' ⟨rfl, rfl⟩)
  go_ret
  exact ⟨rfl, rfl⟩
theorem axis_same (i : Nat) (n : Int) (w : World) : Calls Try.prog 50 #[.int .i64 i, .int .i64 n, .int .i64 n] w fun e w' => e = .returned (.int .i64 i) ∧ w' = w := by
  by_cases h3 : n = 3
  · subst h3
    go_enter Try.func50, Try.ntmps50
    go_wp2
    go_ret
    exact ⟨rfl, rfl⟩
  have e3 : (n == 3) = false := by rw [beq_eq_false_iff_ne]; exact h3
  clear h3
  go_enter Try.func50, Try.ntmps50
  go_wp2
  go_ret
  exact ⟨rfl, rfl⟩
/-- the first k numbers are another list's -/
def Front (k : Nat) (xs zs : List Nat) : Prop := zs.length = xs.length ∧ ∀ j, j < k → zs[j]? = xs[j]?
theorem Front.step {k x : Nat} {xs zs : List Nat} (h : Front k xs zs) (hx : xs[k]? = some x) : Front (k + 1) xs (zs.set k x) := by
  refine ⟨by rw [List.length_set, h.1], fun j hj => ?_⟩
  rw [List.getElem?_set]
  by_cases e : k = j
  · subst e
    have hl : k < zs.length := by rw [h.1]; exact (List.getElem?_eq_some_iff.1 hx).1
    rw [if_pos rfl, if_pos hl, hx]
  · rw [if_neg e]; exact h.2 j (by omega)
theorem Front.all {k : Nat} {xs zs : List Nat} (h : Front k xs zs) (hk : xs.length ≤ k) : zs = xs := by
  apply List.ext_getElem?
  intro j
  by_cases hj : j < k
  · exact h.2 j hj
  · rw [List.getElem?_eq_none (by rw [h.1]; omega), List.getElem?_eq_none (by omega)]
theorem extL_num (g : Nat → Nat → Nat) (hg : ∀ x y, Fl.isNum x = true → Fl.isNum y = true → Fl.isNum (g x y) = true) {xs fl : List Nat} {s : Nat} (nx : AllNum xs) (nf : AllNum fl) : ∀ t, AllNum (Fl.extL g xs fl s t)
  | 0 => nx
  | t + 1 => fun k x hx => by
    have ih := extL_num g hg nx nf (s := s) t
    unfold Fl.extL at hx
    rw [List.getElem?_set] at hx
    split at hx
    · split at hx
      · next hl =>
        cases hx
        have h0 : Fl.isNum 0 = true := by decide +kernel
        refine hg _ _ ?_ ?_
        · rw [List.getD_eq_getElem?_getD]
          cases e : (Fl.extL g xs fl s t)[t % s]? with
          | none => exact h0
          | some z => exact ih _ _ e
        · rw [List.getD_eq_getElem?_getD]
          cases e : fl[t]? with
          | none => exact h0
          | some z => exact nf _ _ e
      · cases hx
    · exact ih _ _ hx
def SEP (n : Int) (s : Nat) (xs ys fl : List Nat) (w : World) (e : Ending) (w' : World) : Prop := ∃ u v, e = .returned (BxV n u v) ∧ FSl u (mnL xs fl s fl.length) w' ∧ FSl v (mxL ys fl s fl.length) w' ∧ Grow w w'
set_option maxRecDepth 100000 in
set_option maxHeartbeats 8000000 in
theorem specExt_calls (n k r : Int) (s : Nat) (u v uf e1 e2 : Value) (xs ys fl : List Nat) (w : World) (hu : FSl u xs w) (hv : FSl v ys w) (hf : FSl uf fl w) (hs : strideN n = s) (hs2 : 2 ≤ s)
    (hx : xs.length = s) (hy : ys.length = s) (nx : AllNum xs) (ny : AllNum ys) (nf : AllNum fl) (hle : fl.length ≤ 2147483647) (hs9 : s ≤ 9) (he1 : ∃ A a c, e1 = .slice A a c) (he2 : ∃ A a c, e2 = .slice A a c) :
    Calls Try.prog 23 #[BxV n u v, GeoE k n r uf e1 e2] w (SEP n s xs ys fl w) := by
  have HNB := Lib.hid (fun w => newBox_calls n s w hs hs9)
  have HS := Lib.hid hs
  obtain ⟨A1, ca1, rfl, hk1, hA1⟩ := hu
  obtain ⟨A2, ca2, rfl, hk2, hA2⟩ := hv
  obtain ⟨A, cf, rfl, hkf, hA⟩ := hf
  obtain ⟨E1, ea, ec, rfl⟩ := he1
  obtain ⟨E2, ea2, ec2, rfl⟩ := he2
  rw [hx, hy]
  have HX := Lib.hid hx; have HY := Lib.hid hy; have NX := Lib.hid nx; have NY := Lib.hid ny; have NF := Lib.hid nf
  rcases hA1 with h0 | ⟨b1', o1', rfl, hc1⟩
  · exfalso; rw [h0] at hx; simp at hx; omega
  rcases hA2 with h0 | ⟨b2', o2', rfl, hc2⟩
  · exfalso; rw [h0] at hy; simp at hy; omega
  have HC1 := Lib.hid hc1; have HC2 := Lib.hid hc2; have HA := Lib.hid hA
  clear hs hx hy nx ny nf hc1 hc2 hA hk1 hk2 hkf
  go_enter Try.func23, Try.ntmps23
  go_wp2_with fail
  refine (boxCover_same _ _).mono ?_
  rintro e w' ⟨rfl, rfl⟩
  go_wp2_with fail
  refine (HNB.out _).mono ?_
  rintro e w1 ⟨V1, V2, rfl, hv1, hv2, hne, hg⟩
  obtain ⟨b1, c1, rfl, hcc1, hbb1, hf1⟩ := hv1.fb (by simp; omega)
  obtain ⟨b2, c2, rfl, hcc2, hbb2, hf2⟩ := hv2.fb (by simp; omega)
  simp only [List.length_replicate] at *
  have hn12 : b1 ≠ b2 := fun e => hne b1 (by simp [Value.ownBlock]) (by simp [Value.ownBlock, e])
  have hB3 : ((((w.alloc (Obj.cells #[.int .i64 n, .slice (some ⟨b1', o1', none⟩) s ca1, .slice (some ⟨b2', o2', none⟩) s ca2] 46)).alloc (Obj.cells #[.int .i64 k, .int .i64 n, .int .i64 r, .slice A fl.length cf, .slice E1 ea ec, .slice E2 ea2 ec2, .slice none 0 0] 28)).alloc (Obj.cells #[.int .i64 0, .slice none 0 0, .slice none 0 0] 46))).heap.size = w.heap.size + 3 := by simp
  rw [hB3] at hbb1 hbb2
  have hsz1 := hg.size
  rw [hB3] at hsz1
  have d0 := up_cell (a := ⟨w.heap.size, 0, none⟩) (v := .int .i64 n) (by go_simp) hg
  have d1 := up_cell (a := ⟨w.heap.size, 1, none⟩) (v := .slice (some ⟨b1', o1', none⟩) s ca1) (by go_simp) hg
  have d2 := up_cell (a := ⟨w.heap.size, 2, none⟩) (v := .slice (some ⟨b2', o2', none⟩) s ca2) (by go_simp) hg
  have d3 := up_cell (a := ⟨w.heap.size + 1, 1, none⟩) (v := .int .i64 n) (by go_simp) hg
  have d4 := up_cell (a := ⟨w.heap.size + 1, 3, none⟩) (v := .slice A fl.length cf) (by go_simp) hg
  have d5 := up_cell (a := ⟨w.heap.size + 1 + 1, 0, none⟩) (v := .int .i64 0) (by go_simp) hg
  have d6 := up_cell (a := ⟨w.heap.size + 1 + 1, 1, none⟩) (v := .slice none 0 0) (by go_simp) hg
  have d7 := up_cell (a := ⟨w.heap.size + 1 + 1, 2, none⟩) (v := .slice none 0 0) (by go_simp) hg
  have df : ∀ o, w1.frozen? ⟨w.heap.size + 1 + 1, o, none⟩ = false := fun o => (grow_frozen hg _ _ (by simp)).trans (by go_simp)
  have HW1 := Lib.hid (((((Grow.refl w).alloc _).alloc _).alloc _).trans hg)
  obtain ⟨w2, hw2⟩ : ∃ x, x = w1.alloc (Obj.cells #[.int .i64 n, .slice (some ⟨b1, 0, none⟩) s c1, .slice (some ⟨b2, 0, none⟩) s c2] 46) := ⟨_, rfl⟩
  have g12 : Grow w1 w2 := by rw [hw2]; exact (Grow.refl w1).alloc _
  have HBO : Hid (BO (w.heap.size + 3) n w1.heap.size b1 c1 b2 c2 s (List.replicate s pInf) (List.replicate s nInf) w2) := by
    refine ⟨by omega, by omega, by omega, ?_, ?_, hn12, hcc1, hcc2, by rw [hw2]; go_simp, by rw [hw2]; go_simp, by rw [hw2]; go_simp, FB.up _ _ hf1 g12, FB.up _ _ hf2 g12⟩
    · have := hf1.1; omega
    · have := hf2.1; omega
  have D0 := Lib.hid (up_cell d0 g12); have D1 := Lib.hid (up_cell d1 g12); have D2 := Lib.hid (up_cell d2 g12); have D3 := Lib.hid (up_cell d3 g12); have D4 := Lib.hid (up_cell d4 g12)
  have D5 := Lib.hid (up_cell d5 g12); have D6 := Lib.hid (up_cell d6 g12); have D7 := Lib.hid (up_cell d7 g12)
  have DF : Hid (∀ o, w2.frozen? ⟨w.heap.size + 1 + 1, o, none⟩ = false) := fun o => (frozUp (cell_ltH d5) g12).trans (df o)
  have HW2 := Lib.hid (HW1.out.trans g12)
  have HWE := Lib.hid hw2
  clear d2 d3 d4 d5 d6 d7 df hne hv1 hv2 hf1 hf2 hg hn12 hcc1 hcc2 hbb1 hbb2 g12 hB3 hw2
  have hl0 : w.heap.size < w1.heap.size := by omega
  go_wp2
  rw [← HWE.out]
  clear d0 d1 HWE
  go_loopw [21] (fun i wr => ∃ (q : Nat) (zs us : List Nat), q ≤ s ∧ i = .int .i64 q ∧ Front q xs zs ∧ Front q ys us ∧ BO (w.heap.size + 3) n w1.heap.size b1 c1 b2 c2 s zs us wr ∧ GB (w.heap.size + 3) w2 wr) (fun i _ => s - (intOf i).toNat)
  case atStart => exact ⟨0, _, _, Nat.zero_le _, rfl, ⟨by simp [HX.out], fun j hj => by omega⟩, ⟨by simp [HY.out], fun j hj => by omega⟩, HBO.out, .refl _⟩
  case round =>
    obtain ⟨q, zs, us, hq, rfl, hfr1, hfr2, hbo, hgb⟩ := hrel
    have HF1 := Lib.hid hfr1; have HF2 := Lib.hid hfr2; have HBO3 := Lib.hid hbo; have HGB := Lib.hid hgb
    clear hfr1 hfr2 hbo hgb HBO
    by_cases hlt : q < s
    case pos =>
      obtain ⟨x, hx⟩ : ∃ x, xs[q]? = some x := ⟨xs[q]'(by rw [HX.out]; exact hlt), by simp⟩
      obtain ⟨y, hy⟩ : ∃ y, ys[q]? = some y := ⟨ys[q]'(by rw [HY.out]; exact hlt), by simp⟩
      have HXE := Lib.hid hx; have HYE := Lib.hid hy
      obtain ⟨g0, g1, g2, n1, n2, n3, k1, k2, c0, e1, e2, F1, F2⟩ := HBO3.out
      obtain ⟨z, hz⟩ : ∃ z, zs[q]? = some z := ⟨zs[q]'(by rw [HF1.out.1, HX.out]; exact hlt), by simp⟩
      obtain ⟨v, hv⟩ : ∃ v, us[q]? = some v := ⟨us[q]'(by rw [HF2.out.1, HY.out]; exact hlt), by simp⟩
      have hzc := (F1.2 _ _ hz).1
      have hvc := (F2.2 _ _ hv).1
      have fr1 : wr.frozen? ⟨b1, q, none⟩ = false := (F1.2 _ _ hz).2
      have fr2 : wr.frozen? ⟨b2, q, none⟩ = false := (F2.2 _ _ hv).2
      have d0 := gbKeep HGB.out D0.out (by omega)
      have d1 := gbKeep HGB.out D1.out (by omega)
      have d2 := gbKeep HGB.out D2.out (by omega)
      have hxc := gbKeep HGB.out (up_cell (HC1.out _ _ hx) HW2.out) (by have := cell_ltH (HC1.out _ _ hx); simp at this; omega)
      have hyc := gbKeep HGB.out (up_cell (HC2.out _ _ hy) HW2.out) (by have := cell_ltH (HC2.out _ _ hy); simp at this; omega)
      have hlti : (q : Int) < (s : Int) := by omega
      have m1 : b1 ≠ w1.heap.size := fun e => n1 e.symm
      have m2 : b2 ≠ w1.heap.size := fun e => n2 e.symm
      have m3 : b2 ≠ b1 := fun e => n3 e.symm
      have m4 : b1 ≠ w.heap.size := by omega
      have m5 : b2 ≠ w.heap.size := by omega
      have m6 : b1 ≠ b1' := by have := cell_ltH (HC1.out _ _ hx); simp at this; omega
      have m7 : b1 ≠ b2' := by have := cell_ltH (HC2.out _ _ hy); simp at this; omega
      have m8 : b2 ≠ b1' := by have := cell_ltH (HC1.out _ _ hx); simp at this; omega
      have m9 : b2 ≠ b2' := by have := cell_ltH (HC2.out _ _ hy); simp at this; omega
      clear hx hy hz hv F1 F2 g0 g1 g2 k1 k2
      go_wp2_with (go_at_call 50; refine (axis_same _ _ _).mono ?_; rintro e w' ⟨rfl, rfl⟩)
      go_region
      go_wp2
      go_roundw
      case rel => exact ⟨q + 1, _, _, by omega, by go_num, HF1.out.step HXE.out, HF2.out.step HYE.out, BO.up _ _ ((HBO3.out.set1 q x).set2 q y) (Grow.refl _).drew, gbGrow (gbSet (gbSet HGB.out (HBO3.out.2.1) _) HBO3.out.2.2.1 _) (Grow.refl _).drew⟩
      case measure => simp [intOf]; omega
    case neg =>
      have hzx := HF1.out.all (by rw [HX.out]; omega)
      have huy := HF2.out.all (by rw [HY.out]; omega)
      subst hzx
      subst huy
      clear HF1 HF2 hq
      have d3 := gbKeep HGB.out D3.out (by omega)
      have d4 := gbKeep HGB.out D4.out (by omega)
      go_wp2_with (go_at_call 22; refine (strideS _ _ _ HS.out).mono ?_; rintro e w' ⟨rfl, rfl⟩)
      clear d3 d4 hlt
      go_loopw [55] (fun i w4 => ∃ (t : Nat), t ≤ fl.length ∧ i = .int .i64 t ∧ BO (w.heap.size + 3) n w1.heap.size b1 c1 b2 c2 s (mnL zs fl s t) (mxL us fl s t) w4 ∧ GB (w.heap.size + 3) w2 w4) (fun i _ => fl.length - (intOf i).toNat)
      case atStart => exact ⟨0, Nat.zero_le _, rfl, HBO3.out, HGB.out⟩
      case round =>
        obtain ⟨t, ht, rfl, hbo, hgb⟩ := hrel
        have HB4 := Lib.hid hbo; have HG4 := Lib.hid hgb
        clear hbo hgb HBO3 HGB
        by_cases hlt : t < fl.length
        case neg =>
          have hte : t = fl.length := by omega
          subst hte
          have d5 := gbKeep HG4.out D5.out (by omega)
          have d6 := gbKeep HG4.out D6.out (by omega)
          have d7 := gbKeep HG4.out D7.out (by omega)
          have df : ∀ o, wr.frozen? ⟨w.heap.size + 1 + 1, o, none⟩ = false := fun o => gbFroz HG4.out (DF.out o) (cell_ltH D5.out)
          obtain ⟨g0, g1, g2, n1, n2, n3, k1, k2, c0, e1, e2, F1, F2⟩ := HB4.out
          have HF1 := Lib.hid F1; have HF2 := Lib.hid F2
          have HK1 := Lib.hid k1; have HK2 := Lib.hid k2; have HG1' := Lib.hid g1; have HG2' := Lib.hid g2
          clear n1 n2 n3 F1 F2 k1 k2 g0 g1 g2 hlt ht
          go_wp2
          have hl1 : (mnL zs fl s fl.length).length = s := by rw [Fl.extL_len]; exact HX.out
          have hl2 : (mxL us fl s fl.length).length = s := by rw [Fl.extL_len]; exact HY.out
          refine bodyPost_ret (v := BxV n (.slice (some ⟨b1, 0, none⟩) s c1) (.slice (some ⟨b2, 0, none⟩) s c2)) (by simp [results, Try.results23, go_sem, d5, d6, d7]) rfl ⟨_, _, rfl, ?_, ?_, ?_⟩
          · have := ((((HF1.out.other (p := ⟨w.heap.size + 1 + 1, 0, none⟩) (by have := HG1'.out; simp; omega) (.int .i64 n)).other (p := ⟨w.heap.size + 1 + 1, 1, none⟩) (by have := HG1'.out; simp; omega) (.slice (some ⟨b1, 0, none⟩) s c1)).other (p := ⟨w.heap.size + 1 + 1, 2, none⟩) (by have := HG1'.out; simp; omega) (.slice (some ⟨b2, 0, none⟩) s c2))).fsl (c := c1) (by rw [hl1]; exact HK1.out)
            rw [hl1] at this; exact this
          · have := ((((HF2.out.other (p := ⟨w.heap.size + 1 + 1, 0, none⟩) (by have := HG2'.out; simp; omega) (.int .i64 n)).other (p := ⟨w.heap.size + 1 + 1, 1, none⟩) (by have := HG2'.out; simp; omega) (.slice (some ⟨b1, 0, none⟩) s c1)).other (p := ⟨w.heap.size + 1 + 1, 2, none⟩) (by have := HG2'.out; simp; omega) (.slice (some ⟨b2, 0, none⟩) s c2))).fsl (c := c2) (by rw [hl2]; exact HK2.out)
            rw [hl2] at this; exact this
          · exact (((gb_grow HG4.out HW2.out (by omega)).setCell (by simp; omega) _).setCell (by simp; omega) _).setCell (by simp; omega) _
        case pos =>
          obtain ⟨p, hp⟩ : ∃ p, p = t % s := ⟨_, rfl⟩
          have hps : p < s := by rw [hp]; exact Nat.mod_lt _ (by omega)
          have hl1 : (mnL zs fl s t).length = s := by rw [Fl.extL_len]; exact HX.out
          have hl2 : (mxL us fl s t).length = s := by rw [Fl.extL_len]; exact HY.out
          obtain ⟨x, hx⟩ : ∃ x, (mnL zs fl s t)[p]? = some x := ⟨(mnL zs fl s t)[p]'(by omega), by simp⟩
          obtain ⟨y, hy⟩ : ∃ y, (mxL us fl s t)[p]? = some y := ⟨(mxL us fl s t)[p]'(by omega), by simp⟩
          obtain ⟨f, hf⟩ : ∃ f, fl[t]? = some f := ⟨fl[t], by simp [hlt]⟩
          have hfn := NF.out _ _ hf
          have hxn := extL_num Fl.fmin (fun x y => Fl.fmin_num) NX.out NF.out t _ _ hx
          have hyn := extL_num Fl.fmax (fun x y => Fl.fmax_num) NY.out NF.out t _ _ hy
          have r1 := Fl.run_fminX hxn hfn Try.prog
          have r2 := Fl.run_fmaxX hyn hfn Try.prog
          have hE1 : Hid (mnL zs fl s (t + 1) = (mnL zs fl s t).set p (Fl.fmin x f)) := by
            show (mnL zs fl s t).set (t % s) (Fl.fmin ((mnL zs fl s t).getD (t % s) 0) (fl.getD t 0)) = _
            rw [← hp, List.getD_eq_getElem?_getD, hx, List.getD_eq_getElem?_getD, hf]; rfl
          have hE2 : Hid (mxL us fl s (t + 1) = (mxL us fl s t).set p (Fl.fmax y f)) := by
            show (mxL us fl s t).set (t % s) (Fl.fmax ((mxL us fl s t).getD (t % s) 0) (fl.getD t 0)) = _
            rw [← hp, List.getD_eq_getElem?_getD, hy, List.getD_eq_getElem?_getD, hf]; rfl
          have hrem : (t : Int) % (s : Int) = (p : Int) := by rw [hp]; rfl
          have hrem2 : (t : Int).tmod (s : Int) = (p : Int) := by rw [hp]; rfl
          have hs0 : ((s : Int) == 0) = false := by rw [beq_eq_false_iff_ne]; omega
          have hs1 : ¬ (s : Int) = 0 := by omega
          rcases HA.out with hA0 | ⟨bf, o, rfl, hcf⟩
          · exfalso; rw [hA0] at hlt; simp at hlt
          have hfc := gbKeep HG4.out (up_cell (hcf _ _ hf) HW2.out) (by have := cell_ltH (hcf _ _ hf); simp at this; omega)
          have d3 := gbKeep HG4.out D3.out (by omega)
          obtain ⟨g0, g1, g2, n1, n2, n3, k1, k2, c0, e1, e2, F1, F2⟩ := HB4.out
          have hzc := (F1.2 _ _ hx).1
          have hvc := (F2.2 _ _ hy).1
          have fr1 : wr.frozen? ⟨b1, p, none⟩ = false := (F1.2 _ _ hx).2
          have fr2 : wr.frozen? ⟨b2, p, none⟩ = false := (F2.2 _ _ hy).2
          have hlti : (p : Int) < (s : Int) := by omega
          have hltt : (t : Int) < (fl.length : Int) := by omega
          have m1 : b1 ≠ w1.heap.size := fun e => n1 e.symm
          have m2 : b2 ≠ w1.heap.size := fun e => n2 e.symm
          have m3 : b2 ≠ b1 := fun e => n3 e.symm
          have HHP := Lib.hid hp
          clear hx hy hf hfn hxn hyn F1 F2 g0 g1 g2 k1 k2 hl1 hl2 hcf hp hlt
          go_wp2
          go_quiet ((go_at_call 50; exact Calls.quiet_of_same (axis_same _ _ _)))
          go_wp2
          generalize hwB : wr.drewN _ = wB
          have hgB : Grow wr wB := by rw [← hwB]; exact (Grow.refl wr).drewN _
          clear hwB
          have HBB := Lib.hid (BO.up _ _ HB4.out hgB)
          have HGB := Lib.hid (gbGrow HG4.out hgB)
          have q0 := up_cell c0 hgB
          have q1 := up_cell e1 hgB
          have q2 := up_cell e2 hgB
          have q3 := up_cell hzc hgB
          have q4 := up_cell hvc hgB
          have q6 := (frozUp (o := p) (cell_ltH hzc) hgB).trans fr1
          have q7 := (frozUp (o := p) (cell_ltH hvc) hgB).trans fr2
          clear c0 e1 e2 hzc hvc fr1 fr2 hgB hfc d3
          go_region
          go_wp2
          go_roundw
          case rel => exact ⟨t + 1, by omega, by go_num, by rw [hE1.out, hE2.out]; exact BO.up _ _ ((HBB.out.set1 p _).set2 p _) (Grow.refl _).drew, gbGrow (gbSet (gbSet HGB.out (HBB.out.2.1) _) HBB.out.2.2.1 _) (Grow.refl _).drew⟩
          case measure => simp [intOf]; omega
end Go.Proofs.Ytegknlnkkoeahaa
