import Derived.Test.YtemobphkgbhhhaaBndD
import Derived.Test.YtemobphkgbhhhaaAppF
namespace Go.Proofs.Ytemobphkgbhhhaa
open Go.ChangeShapes Go.WideShapes Go.ChangeAt Go.RowKit Go.GrowR
set_option linter.unusedVariables false
set_option linter.unusedSimpArgs false

def LawQ (w : World) (e : Ending) (w' : World) : Prop := e = .returned (.bool true) ∧ Grow w w'
/-- a row of one geometry that was made *)-/
def OneR (B : Nat) (k l r : Int) (A1 : Option Addr) (n1 c1 : Nat) (A2 : Option Addr) (n2 c2 : Nat) (A3 : Option Addr) (n3 c3 : Nat) (A4 : Option Addr) (n4 c4 : Nat) (V : Value) (w : World) : Prop := ∃ b, V = .slice (some ⟨b, 0, none⟩) 1 1 ∧ Seven b 0 k l r A1 n1 c1 A2 n2 c2 A3 n3 c3 A4 n4 c4 w
theorem OneR.up {B : Nat} {k l r : Int} {A1 : Option Addr} {n1 c1 : Nat} {A2 : Option Addr} {n2 c2 : Nat} {A3 : Option Addr} {n3 c3 : Nat} {A4 : Option Addr} {n4 c4 : Nat} {V : Value} : Up (OneR B k l r A1 n1 c1 A2 n2 c2 A3 n3 c3 A4 n4 c4 V) := fun _ _ ⟨b, h1, h2⟩ hg => ⟨b, h1, Seven.up _ _ h2 hg⟩
def AddV (g : GT) (k : Int) (fl : List Nat) (V : Value) : Prop := ∃ r : Bool, V = .bool r ∧ (r = true → GGood g ∧ k ≠ 7 ∧ LayF 4 g ∧ AllNum fl)
theorem place_cut {fl : List Nat} {s K i : Nat} (hK : fl.length = K * s) (hi : i < K) : ∃ X M Z, fl = X ++ M ++ Z ∧ X.length = i * s ∧ M.length = s ∧ ∀ j x, M[j]? = some x → fl[i * s + j]? = some x := by
  have h1 : (i + 1) * s ≤ K * s := Nat.mul_le_mul_right s hi
  rw [Nat.add_mul, Nat.one_mul] at h1
  have hX : (fl.take (i * s)).length = i * s := by rw [List.length_take]; omega
  have hM : ((fl.drop (i * s)).take s).length = s := by rw [List.length_take, List.length_drop]; omega
  refine ⟨fl.take (i * s), (fl.drop (i * s)).take s, (fl.drop (i * s)).drop s, by rw [List.append_assoc, List.take_append_drop, List.take_append_drop], hX, hM, fun j x hj => ?_⟩
  have hjs : j < s := by have := (List.getElem?_eq_some_iff.1 hj).1; omega
  rw [List.getElem?_take, if_pos hjs, List.getElem?_drop] at hj
  exact hj
set_option maxRecDepth 100000 in
set_option maxHeartbeats 16000000 in
theorem law_calls (g : GT) (gv : Value) (i : Int) (w : World) (hg : GV g gv w) (hr : Reach44 g) (hwi : (Lit.int .i64 i).wf = true) : Calls Try.prog 6 #[gv, .int .i64 i] w (LawQ w) := by
  have HGV := Lib.hid hg
  obtain ⟨k, l, r, fl, en, ens, kids, A1, c1, A2, c2, A3, c3, A4, c4, rfl, rfl, hfl, hen, hens⟩ := hg.seven
  have HFT := Lib.hid (fun w' (hw : Grow w w') => fits2_calls _ _ w' hr (GV.up _ _ _ _ HGV.out hw))
  have HRR := Lib.hid hr
  have HAD := Lib.hid (fun b c0 w' (hw : Grow w w') h7 hfl => bAdds_calls b c0 k l r fl en ens kids A1 c1 A2 c2 A3 c3 A4 c4 w' hr h7 (GV.up _ _ _ _ HGV.out hw) hfl)
  have hlf : fl.length ≤ 17592186044416 := by cases hr with | mk r0 => exact r0
  clear hg hfl hen hens
  go_enter Try.func6, Try.ntmps6
  go_wp2_with fail
  refine (HFT.out _ ((Grow.refl w).alloc _)).mono ?_
  rintro e w1 ⟨r1, rfl, hg1, hr1⟩
  have H71 : Hid (Seven w.heap.size 0 k l r A1 fl.length c1 A2 en.length c2 A3 ens.length c3 A4 kids.length c4 w1) := ⟨up_cell (by go_simp) hg1, up_cell (by go_simp) hg1, up_cell (by go_simp) hg1, up_cell (by go_simp) hg1, up_cell (by go_simp) hg1, up_cell (by go_simp) hg1, up_cell (by go_simp) hg1⟩
  have HG1 := Lib.hid (((Grow.refl w).alloc _).trans hg1)
  have HR1 := Lib.hid hr1
  clear hg1 hr1
  cases r1 with
  | false =>
    go_wp2
    go_ret
    exact ⟨rfl, HG1.out⟩
  | true =>
    have H31 := Lib.hid (HR1.out (by first | rfl | trivial))
    obtain ⟨q0, q1, q2, q3, q4, q5, q6⟩ := H71.out
    simp only [Nat.zero_add] at q1 q2 q3 q4 q5 q6
    have lt1 : w.heap.size < w1.heap.size := cell_ltH q0
    by_cases hi0 : i < 0
    · have hi1 : decide (i < 0) = true := by simpa using hi0
      go_wp2
      refine wp_region_grow (fun i => if i = 1 then some (fun _ _ V ww => OneR 0 k l r A1 fl.length c1 A2 en.length c2 A3 ens.length c3 A4 kids.length c4 V ww) else if i = 2 then some (fun _ _ V ww => AddV (.mk k l r fl en ens kids) k fl V) else none) (by kernel_rfl) (by kernel_rfl) ?_ ?_
      · intro i Φ h lo hi v
        (repeat' split at h) <;> cases h
        · exact OneR.up
        · exact fun _ _ h _ => h
      repeat (first
        | (refine wpGrow_skip (by rfl) ?_; simp only [Act.put, List.setIfInBounds_toArray, List.set_cons_zero, List.set_cons_succ, Nat.reduceAdd])
        | (refine wpGrow_det' (by rfl) (by rfl) ?_; apply Exists.intro; refine ⟨fun w' hc hh => ?_, ?_⟩; (have hcell := grow_cell hc; clear hc hh; go_simp; rfl); simp only [Act.put, List.setIfInBounds_toArray, List.set_cons_zero, List.set_cons_succ, Nat.reduceAdd]))
      refine wpGrow_eff' (by rfl) (by rfl) (fun w' hc hh => ?_) (fun v lo hi w' hap hc hh hv => ?_)
      · clear hh
        have hcell := grow_cell hc
        clear hc
        go_simp
        exact EffVal.mk ((Grow.refl w').alloc _) ⟨_, rfl, by go_simp, by go_simp, by go_simp, by go_simp, by go_simp, by go_simp, by go_simp⟩
      obtain ⟨b1, rfl, -⟩ := hv
      clear hc hh hap w'
      simp only [Act.put, List.setIfInBounds_toArray, List.set_cons_zero, List.set_cons_succ, Nat.reduceAdd]
      repeat (first
        | (refine wpGrow_skip (by rfl) ?_; simp only [Act.put, List.setIfInBounds_toArray, List.set_cons_zero, List.set_cons_succ, Nat.reduceAdd])
        | (refine wpGrow_det' (by rfl) (by rfl) ?_; apply Exists.intro; refine ⟨fun w' hc hh => ?_, ?_⟩; (have hcell := grow_cell hc; clear hc hh; go_simp; rfl); simp only [Act.put, List.setIfInBounds_toArray, List.set_cons_zero, List.set_cons_succ, Nat.reduceAdd]))
      refine wpGrow_eff' (by rfl) (by rfl) (fun w' hc hh => ?_) (fun v lo hi w' hap hc hh hv => ?_)
      · have H1 := Lib.hid (hh 1 (anc_of 5 (by kernel_rfl)))
        have HGC := Lib.hid (HG1.out.trans hc)
        clear hc hh
        obtain ⟨b1', hb1, hgeo⟩ := H1.out
        cases hb1
        go_simp
        go_at_call 22
        refine (HAD.out _ _ _ HGC.out hgeo (by omega)).mono ?_
        rintro e w5 ⟨r5, rfl, hg5, hr5⟩
        exact EffPost.mk hg5 ⟨r5, rfl, hr5⟩
      obtain ⟨r5, rfl, hr5⟩ := hv
      have HR5 := Lib.hid hr5
      clear hr5
      clear hc hh hap w'
      cases r5
      all_goals
        simp only [Act.put, List.setIfInBounds_toArray, List.set_cons_zero, List.set_cons_succ, Nat.reduceAdd]
        repeat (first
          | (refine wpGrow_skip (by rfl) ?_; simp only [Act.put, List.setIfInBounds_toArray, List.set_cons_zero, List.set_cons_succ, Nat.reduceAdd])
          | (refine wpGrow_det' (by rfl) (by rfl) ?_; apply Exists.intro; refine ⟨fun w' hc hh => ?_, ?_⟩; (have hcell := grow_cell hc; clear hc hh; go_simp; rfl); simp only [Act.put, List.setIfInBounds_toArray, List.set_cons_zero, List.set_cons_succ, Nat.reduceAdd]))
        refine wpGrow_nil ?_
        intro w2 hg hh
        have HG2 := Lib.hid (HG1.out.trans hg)
        clear hh hg
        go_wp2
        go_ret
        exact ⟨rfl, HG2.out⟩
    obtain ⟨ii, rfl⟩ : ∃ ii : Nat, i = ii := ⟨i.toNat, by omega⟩
    have hi1 : decide ((ii : Int) < 0) = false := by simp
    have hii : (ii : Int) ≤ 9223372036854775807 := (wf_le hwi).2
    clear hwi hi0
    go_wp2
    refine wp_region_grow (fun i => if i = 1 then some (fun _ _ V ww => OneR 0 k l r A1 fl.length c1 A2 en.length c2 A3 ens.length c3 A4 kids.length c4 V ww) else if i = 2 then some (fun _ _ V ww => AddV (.mk k l r fl en ens kids) k fl V) else if i = 15 then some (fun _ _ V ww => V = .int .i64 (strideN l)) else none) (by kernel_rfl) (by kernel_rfl) ?_ ?_
    · intro i Φ h lo hi v
      (repeat' split at h) <;> cases h
      · exact OneR.up
      · exact fun _ _ h _ => h
      · exact fun _ _ h _ => h
    repeat (first
      | (refine wpGrow_skip (by rfl) ?_; simp only [Act.put, List.setIfInBounds_toArray, List.set_cons_zero, List.set_cons_succ, Nat.reduceAdd])
      | (refine wpGrow_det' (by rfl) (by rfl) ?_; apply Exists.intro; refine ⟨fun w' hc hh => ?_, ?_⟩; (have hcell := grow_cell hc; clear hc hh; go_simp; rfl); simp only [Act.put, List.setIfInBounds_toArray, List.set_cons_zero, List.set_cons_succ, Nat.reduceAdd]))
    refine wpGrow_eff' (by rfl) (by rfl) (fun w' hc hh => ?_) (fun v lo hi w' hap hc hh hv => ?_)
    · clear hh
      have hcell := grow_cell hc
      clear hc
      go_simp
      exact EffVal.mk ((Grow.refl w').alloc _) ⟨_, rfl, by go_simp, by go_simp, by go_simp, by go_simp, by go_simp, by go_simp, by go_simp⟩
    obtain ⟨b1, rfl, -⟩ := hv
    clear hc hh hap w'
    simp only [Act.put, List.setIfInBounds_toArray, List.set_cons_zero, List.set_cons_succ, Nat.reduceAdd]
    repeat (first
      | (refine wpGrow_skip (by rfl) ?_; simp only [Act.put, List.setIfInBounds_toArray, List.set_cons_zero, List.set_cons_succ, Nat.reduceAdd])
      | (refine wpGrow_det' (by rfl) (by rfl) ?_; apply Exists.intro; refine ⟨fun w' hc hh => ?_, ?_⟩; (have hcell := grow_cell hc; clear hc hh; go_simp; rfl); simp only [Act.put, List.setIfInBounds_toArray, List.set_cons_zero, List.set_cons_succ, Nat.reduceAdd]))
    refine wpGrow_eff' (by rfl) (by rfl) (fun w' hc hh => ?_) (fun v lo hi w' hap hc hh hv => ?_)
    · have H1 := Lib.hid (hh 1 (anc_of 5 (by kernel_rfl)))
      have HGC := Lib.hid (HG1.out.trans hc)
      clear hc hh
      obtain ⟨b1', hb1, hgeo⟩ := H1.out
      cases hb1
      go_simp
      go_at_call 22
      refine (HAD.out _ _ _ HGC.out hgeo (by omega)).mono ?_
      rintro e w5 ⟨r5, rfl, hg5, hr5⟩
      exact EffPost.mk hg5 ⟨r5, rfl, hr5⟩
    obtain ⟨r5, rfl, hr5⟩ := hv
    have HR5 := Lib.hid hr5
    clear hr5
    clear hc hh hap w'
    cases r5
    · simp only [Act.put, List.setIfInBounds_toArray, List.set_cons_zero, List.set_cons_succ, Nat.reduceAdd]
      repeat (first
        | (refine wpGrow_skip (by rfl) ?_; simp only [Act.put, List.setIfInBounds_toArray, List.set_cons_zero, List.set_cons_succ, Nat.reduceAdd])
        | (refine wpGrow_det' (by rfl) (by rfl) ?_; apply Exists.intro; refine ⟨fun w' hc hh => ?_, ?_⟩; (have hcell := grow_cell hc; clear hc hh; go_simp; rfl); simp only [Act.put, List.setIfInBounds_toArray, List.set_cons_zero, List.set_cons_succ, Nat.reduceAdd]))
      refine wpGrow_nil ?_
      intro w2 hg hh
      have HG2 := Lib.hid (HG1.out.trans hg)
      clear hh hg
      go_wp2
      go_ret
      exact ⟨rfl, HG2.out⟩
    · obtain ⟨hgood, h7, hl4, hnum⟩ := HR5.out (by first | rfl | trivial)
      obtain ⟨s, hpg⟩ := plainG hgood H31.out h7
      have hk0 := hpg.kids0
      subst hk0
      have HGE := Lib.hid (fun w' (hw : Grow w w') => geoG _ _ w' hgood.1 hgood.2.1 HRR.out (GV.up _ _ _ _ HGV.out hw))
      have HST := Lib.hid hpg.st
      obtain ⟨K, hKe⟩ : ∃ K, K = fl.length / s := ⟨_, rfl⟩
      have hK : fl.length = K * s := by rw [hKe]; exact hpg.div
      have hd2 : (fl.length : Int).tdiv (s : Int) = (K : Int) := by
        rw [Int.tdiv_eq_ediv_of_nonneg (by omega), hK, Int.natCast_mul, Int.mul_ediv_cancel _ (by have := hpg.s2; omega)]
      have hfl2 := hpg.flat
      have hKf : K ≤ fl.length := by rw [hK]; exact Nat.le_mul_of_pos_right K (by have := hpg.s2; omega)
      have hwK : IntKind.i64.wrap (K : Int) = (K : Int) := IntWalk.i64_in _ (by omega)
      have hs0 : (s : Int) ≠ 0 := by have := hpg.s2; omega
      have hs1 : ¬ s = 0 := by have := hpg.s2; omega
      have HPG := Lib.hid hpg; have HN := Lib.hid hnum; have HK := Lib.hid hK
      clear hgood h7 hl4 hnum hpg hKe hK
      by_cases hiK : ii < K
      case neg =>
        have hge : decide (K ≤ ii) = true := by simp; omega
        have hge2 : decide ((K : Int) ≤ (ii : Int)) = true := by simp; omega
        simp only [Act.put, List.setIfInBounds_toArray, List.set_cons_zero, List.set_cons_succ, Nat.reduceAdd]
        repeat (first
          | (refine wpGrow_skip (by rfl) ?_; simp only [Act.put, List.setIfInBounds_toArray, List.set_cons_zero, List.set_cons_succ, Nat.reduceAdd])
          | (refine wpGrow_det' (by rfl) (by rfl) ?_; apply Exists.intro; refine ⟨fun w' hc hh => ?_, ?_⟩; (have hcell := grow_cell hc; clear hc hh; go_simp; rfl); simp only [Act.put, List.setIfInBounds_toArray, List.set_cons_zero, List.set_cons_succ, Nat.reduceAdd]))
        refine wpGrow_eff' (by rfl) (by rfl) (fun w' hc hh => ?_) (fun v lo hi w' hap hc hh hv => ?_)
        · clear hc hh
          go_simp
          go_at_call 23
          refine (strideS l s _ HST.out).mono ?_
          rintro e w5 ⟨rfl, rfl⟩
          exact EffPost.mk (Grow.refl _) (by rw [HST.out])
        obtain rfl := hv
        clear hc hh hap w'
        rw [HST.out]
        simp only [Act.put, List.setIfInBounds_toArray, List.set_cons_zero, List.set_cons_succ, Nat.reduceAdd]
        repeat (first
          | (refine wpGrow_skip (by rfl) ?_; simp only [Act.put, List.setIfInBounds_toArray, List.set_cons_zero, List.set_cons_succ, Nat.reduceAdd])
          | (refine wpGrow_det' (by rfl) (by rfl) ?_; apply Exists.intro; refine ⟨fun w' hc hh => ?_, ?_⟩; (have hcell := grow_cell hc; clear hc hh; go_simp; rfl); simp only [Act.put, List.setIfInBounds_toArray, List.set_cons_zero, List.set_cons_succ, Nat.reduceAdd]))
        refine wpGrow_nil ?_
        intro w2 hg hh
        have HG2 := Lib.hid (HG1.out.trans hg)
        clear hh hg
        go_wp2
        go_ret
        exact ⟨rfl, HG2.out⟩
      case pos =>
        have hge : decide (K ≤ ii) = false := by simp; omega
        have hge2 : decide ((K : Int) ≤ (ii : Int)) = false := by simp; omega
        simp only [Act.put, List.setIfInBounds_toArray, List.set_cons_zero, List.set_cons_succ, Nat.reduceAdd]
        repeat (first
          | (refine wpGrow_skip (by rfl) ?_; simp only [Act.put, List.setIfInBounds_toArray, List.set_cons_zero, List.set_cons_succ, Nat.reduceAdd])
          | (refine wpGrow_det' (by rfl) (by rfl) ?_; apply Exists.intro; refine ⟨fun w' hc hh => ?_, ?_⟩; (have hcell := grow_cell hc; clear hc hh; go_simp; rfl); simp only [Act.put, List.setIfInBounds_toArray, List.set_cons_zero, List.set_cons_succ, Nat.reduceAdd]))
        refine wpGrow_eff' (by rfl) (by rfl) (fun w' hc hh => ?_) (fun v lo hi w' hap hc hh hv => ?_)
        · clear hc hh
          go_simp
          go_at_call 23
          refine (strideS l s _ HST.out).mono ?_
          rintro e w5 ⟨rfl, rfl⟩
          exact EffPost.mk (Grow.refl _) (by rw [HST.out])
        obtain rfl := hv
        clear hc hh hap w'
        rw [HST.out]
        simp only [Act.put, List.setIfInBounds_toArray, List.set_cons_zero, List.set_cons_succ, Nat.reduceAdd]
        repeat (first
          | (refine wpGrow_skip (by rfl) ?_; simp only [Act.put, List.setIfInBounds_toArray, List.set_cons_zero, List.set_cons_succ, Nat.reduceAdd])
          | (refine wpGrow_det' (by rfl) (by rfl) ?_; apply Exists.intro; refine ⟨fun w' hc hh => ?_, ?_⟩; (have hcell := grow_cell hc; clear hc hh; go_simp; rfl); simp only [Act.put, List.setIfInBounds_toArray, List.set_cons_zero, List.set_cons_succ, Nat.reduceAdd]))
        refine wpGrow_nil ?_
        intro w2 hg hh
        have HG2 := Lib.hid (HG1.out.trans hg)
        have H72 := Lib.hid (Seven.up _ _ H71.out hg)
        clear hh hg hge hge2 hd2 hwK
        have HBD : Hid (∀ w', Grow w w' → Calls Try.prog 24 #[Geo7 k l r A1 fl.length c1 A2 en.length c2 A3 ens.length c3 A4 0 c4] w' (BdP l s fl w')) := fun w' hw => bounds_calls k l r _ _ _ _ _ _ _ _ _ _ _ _ s fl en ens w' HPG.out HN.out fun w4 hw4 => HGE.out w4 (hw.trans hw4)
        have H72' : Hid (Seven w.heap.size 0 k l r A1 fl.length c1 A2 en.length c2 A3 ens.length c3 A4 0 c4 w2) := H72.out
        clear H72
        obtain ⟨q0, q1, q2, q3, q4, q5, q6⟩ := H72'.out
        simp only [Nat.zero_add] at q1 q2 q3 q4 q5 q6
        have lt2 : w.heap.size < w2.heap.size := cell_ltH q0
        go_wp2_with (go_at_call 23; refine (strideS l s _ HST.out).mono ?_; rintro e w2 ⟨rfl, rfl⟩)
        refine (HBD.out _ HG2.out).mono ?_
        rintro e w3 ⟨u, v, zs, us, rfl, hlim, hzf, huf, hg3⟩
        have HLM := Lib.hid hlim; have HZF := Lib.hid hzf; have HUF := Lib.hid huf
        obtain ⟨B1, d1, rfl, -, -⟩ := hzf
        obtain ⟨B2, d2, rfl, -, -⟩ := huf
        have HG3 := Lib.hid (HG2.out.trans hg3)
        have H73 := Lib.hid (Seven.up _ _ H72'.out hg3)
        clear q0 q1 q2 q3 q4 q5 q6 lt2 hlim hg3
        obtain ⟨q0, q1, q2, q3, q4, q5, q6⟩ := H73.out
        simp only [Nat.zero_add] at q1 q2 q3 q4 q5 q6
        have lt3 : w.heap.size < w3.heap.size := cell_ltH q0
        obtain ⟨X, M, Z, hfl, hXl, hMl, hMf⟩ := place_cut HK.out hiK
        obtain ⟨i0, hi, hz0, hz1, hz2⟩ := info_parts infoFb
        have hfu : FSl (.slice A1 fl.length c1) (X ++ M ++ Z) w3 := by
          obtain ⟨k', l', r', fl', en', ens', kids', B1', e1, B2', e2, B3', e3, B4', e4, he, hv, hf, -, -⟩ := (GV.up _ _ _ _ HGV.out HG3.out).seven
          cases he
          simp only [GeoF, Value.agg.injEq, Array.mk.injEq, List.cons.injEq, Value.slice.injEq] at hv
          obtain ⟨-, -, -, ⟨rfl, -, rfl⟩, -⟩ := hv
          rw [← hfl]; exact hf
        obtain ⟨A', c', hM, hcut⟩ := fcut (P := Try.prog) (t := 22) (e := 36) (by kernel_rfl) hi hz1 hfu
        obtain ⟨A'', c'', he, -, hMc⟩ := hM
        simp only [Value.slice.injEq] at he
        obtain ⟨rfl, -, rfl⟩ := he
        have hs2 := HPG.out.s2
        obtain ⟨bp, op, rfl, hcp⟩ : ∃ bp op, A' = some ⟨bp, op, none⟩ ∧ FCells w3 bp op M := by
          rcases hMc with h0 | h
          · rw [h0] at hMl; simp at hMl; omega
          · exact h
        obtain ⟨P, hP⟩ : ∃ P, P = ii * s := ⟨_, rfl⟩
        have hcut' : ∀ (w' : World), (Instr.slice 22 (.slice A1 fl.length c1) (some (.int .i64 (P : Int))) (some (.int .i64 ((P : Int) + (s : Int)))) none).run Try.prog w' = .ok (.slice (some ⟨bp, op, none⟩) s c') w' := fun w' => by
          have := hcut w' .i64 .i64 ((P : Int) + (s : Int)) (by rw [hXl, hMl, hP])
          rw [hXl, hMl, ← hP] at this; exact this
        have hPs : P + s ≤ fl.length := by
          have h1 : (ii + 1) * s ≤ K * s := Nat.mul_le_mul_right s hiK
          rw [Nat.add_mul, Nat.one_mul] at h1
          have h2 := HK.out; omega
        have hmul : IntKind.i64.wrap ((ii : Int) * (s : Int)) = (P : Int) := by rw [← Int.natCast_mul, ← hP]; exact IntWalk.i64_in _ (by omega)
        have hadd : IntKind.i64.wrap ((P : Int) + (s : Int)) = (P : Int) + (s : Int) := IntWalk.i64_in _ (by omega)
        have hin : InBox s zs us M := fun j z u x hj hz hu hx => by
          have h1 := hMf j x hx
          exact lims_in HLM.out (by omega) HN.out HK.out hiK hj h1 hz hu
        have HOV : Hid (∀ w', Grow w3 w' → Calls Try.prog 25 #[.int .i64 l, BxV l (.slice B1 zs.length d1) (.slice B2 us.length d2), .slice (some ⟨bp, op, none⟩) s c'] w' (fun e w2 => e = .returned (.tuple #[.bool true, .bool true]) ∧ Grow w' w2)) := fun w' hw => implOverlaps_calls l s _ _ zs us M bp op s c' w' (FSl.up _ _ HZF.out hw) (FSl.up _ _ HUF.out hw) HPG.out.l1 HPG.out.l9 HPG.out.st HPG.out.s9 HLM.out.len.1 HLM.out.len.2 rfl hMl (hcp.up hw) hin
        clear hfl hXl hMl hMf hi hz0 hz1 hz2 hfu hcut hMc hcp hP hPs hin hiK hKf hfl2 hs2 hs0 hs1
        generalize fl.length = N at *
        generalize zs.length = m1 at *
        generalize us.length = m2 at *
        go_wp2
        refine wp_region_grow (fun i => if i = 14 then some (fun _ _ V _ => V = .tuple #[.bool true, .bool true]) else none) (by kernel_rfl) (by kernel_rfl) ?_ ?_
        · intro i Φ h lo hi v
          (repeat' split at h) <;> cases h
          · exact fun _ _ h _ => h
        repeat (first
          | (refine wpGrow_skip (by rfl) ?_; simp only [Act.put, List.setIfInBounds_toArray, List.set_cons_zero, List.set_cons_succ, Nat.reduceAdd])
          | (refine wpGrow_det' (by rfl) (by rfl) ?_; apply Exists.intro; refine ⟨fun w' hc hh => ?_, ?_⟩; (have hcell := grow_cell hc; clear hc hh; go_simp; rfl); simp only [Act.put, List.setIfInBounds_toArray, List.set_cons_zero, List.set_cons_succ, Nat.reduceAdd]))
        refine wpGrow_eff' (by rfl) (by rfl) (fun w' hc hh => ?_) (fun v lo hi w' hap hc hh hv => ?_)
        · have HC := Lib.hid (((Grow.refl w3).alloc _).trans hc)
          clear hc hh
          go_simp
          go_at_call 25
          refine (HOV.out _ HC.out).mono ?_
          rintro e w5 ⟨rfl, hg5⟩
          exact EffPost.mk hg5 rfl
        obtain rfl := hv
        clear hc hh hap w'
        simp only [Act.put, List.setIfInBounds_toArray, List.set_cons_zero, List.set_cons_succ, Nat.reduceAdd]
        repeat (first
          | (refine wpGrow_skip (by rfl) ?_; simp only [Act.put, List.setIfInBounds_toArray, List.set_cons_zero, List.set_cons_succ, Nat.reduceAdd])
          | (refine wpGrow_det' (by rfl) (by rfl) ?_; apply Exists.intro; refine ⟨fun w' hc hh => ?_, ?_⟩; (have hcell := grow_cell hc; clear hc hh; go_simp; rfl); simp only [Act.put, List.setIfInBounds_toArray, List.set_cons_zero, List.set_cons_succ, Nat.reduceAdd]))
        refine wpGrow_nil ?_
        intro w1 hg hh
        have HG4 := Lib.hid (HG3.out.trans (((Grow.refl w3).alloc _).trans hg))
        clear hh hg
        go_wp2
        go_ret
        exact ⟨by first | rfl | simp, HG4.out⟩
end Go.Proofs.Ytemobphkgbhhhaa
