import Derived.Test.YtemobphkgbhhhaaPrtF
namespace Go.Proofs.Ytemobphkgbhhhaa
open Go.ChangeShapes Go.WideShapes Go.ChangeAt Go.RowKit Go.GrowR
set_option linter.unusedVariables false
set_option linter.unusedSimpArgs false

def LawQ (w : World) (e : Ending) (w' : World) : Prop := e = .returned (.bool true) ∧ Grow w w'
theorem mem_fwd {segs : List (List (List Nat))} {rows : List (List Nat)} {x : Nat} (hm : rows ∈ segs) (hx : x ∈ rows.flatten) : x ∈ fwd segs := by
  unfold fwd
  exact List.mem_flatten.2 ⟨rows.flatten, List.mem_map.2 ⟨rows, hm, rfl⟩, hx⟩
theorem cum_le (s : Nat) (segs : List (List (List Nat))) (hr : ∀ rows ∈ segs, ∀ r ∈ rows, r.length = s) : ∀ x ∈ cum s 0 segs, x ≤ (fwd segs).length := fun x hx => by
  obtain ⟨i, hi⟩ := List.mem_iff_getElem?.1 hx
  have hil : i < segs.length := by rw [← cum_len s segs 0]; exact (List.getElem?_eq_some_iff.1 hi).1
  have h1 := cum_at (o := 0) hr (show segs[i]? = some segs[i] by simp [hil])
  rw [h1] at hi; cases hi
  have h2 := congrArg List.length (seg_flat (show segs[i]? = some segs[i] by simp [hil]))
  simp only [List.length_append, flat_len (hr _ (List.getElem_mem hil))] at h2
  omega
/-- all that is known of the parts of good data *)-/
structure PAll (gv : Value) (w : World) (N : Nat) (f : Nat → Option GT) : Prop where
  n : N ≤ 10000000000000
  x : ∀ j, j < N → ∃ kid, f j = some kid ∧ Reach44 kid
  num : ∀ w', Grow w w' → Calls Try.prog 19 #[gv] w' fun e w2 => e = .returned (.int .i64 N) ∧ Grow w' w2
  spec : ∀ (j : Nat) (kid : GT), f j = some kid → ∀ w', Grow w w' → Calls Try.prog 21 #[gv, .int .i64 (j : Int)] w' (SpQ kid w')
  inn : ∀ (j : Nat) (kid : GT), f j = some kid → (j : Int) ≤ 9223372036854775807 → ∀ w', Grow w w' → Calls Try.prog 18 #[gv, .int .i64 (j : Int)] w' (PrQ kid w')
  out : ∀ i : Int, -9223372036854775808 ≤ i ∧ i ≤ 9223372036854775807 → (i < 0 ∨ (N : Int) ≤ i) → ∀ w', Grow w w' → Calls Try.prog 18 #[gv, .int .i64 i] w' (PrN w')
theorem parts_all {k l r : Int} {fl : List Nat} {en : List Int} {ens : List (List Int)} {kids : List GT} (hg : GGood (.mk k l r fl en ens kids)) (h31 : Small31 (.mk k l r fl en ens kids)) (hr : Reach44 (.mk k l r fl en ens kids)) (h3 : 3 ≤ k) (h7 : k ≤ 7) {gv : Value} {w : World} (hv : GV (.mk k l r fl en ens kids) gv w) : ∃ N f, PAll gv w N f := by
  have hge : ∀ w', Grow w w' → Calls Try.prog 35 #[gv] w' (GQ (.mk k l r fl en ens kids) w') := fun w' hw => geoG _ _ w' hg.1 hg.2.1 hr (GV.up _ _ _ _ hv hw)
  obtain ⟨k0, l0, r0, fl0, en0, ens0, kids0, A1, c1, A2, c2, A3, c3, A4, c4, he, rfl, -, -, -⟩ := hv.seven
  cases he
  by_cases hk : k = 7
  · subst hk
    obtain ⟨hgf, -, -⟩ := hg
    cases hr with
    | mk a0 a1 a2 a3 a4 a5 a6 a7 ak a8 =>
    cases hgf with
    | plain h => exact absurd rfl h
    | coll b0 b1 b2 =>
    refine ⟨kids.length, (kids[·]?), by omega, fun j hj => ⟨kids[j], by simp [hj], a8 _ (List.getElem_mem hj)⟩, fun w' hw => numParts7 l r A1 A2 A3 A4 _ c1 _ c2 _ c3 _ c4 w', fun j kid hj w' hw => specPart7 hj a3 (GV.up _ _ _ _ hv hw), fun j kid hj hb w' hw => part7_in b1 a8 a3 A1 _ c1 A2 _ c2 A3 _ c3 A4 _ c4 j w' hj fun w2 hw2 => hge w2 (hw.trans hw2), fun i hi ho w' hw => part7_out a3 A1 _ c1 A2 _ c2 A3 _ c3 A4 _ c4 w' ho fun w2 hw2 => hge w2 (hw.trans hw2)⟩
  · obtain ⟨s, hp⟩ := plainG hg h31 hk
    have hk0 := hp.kids0
    subst hk0
    obtain ⟨n, f, hsh⟩ := PSh.ex (l := l) (by have := hp.s2; omega) hp.dk ⟨h3, by omega⟩
    have hfl := hp.flat
    have hwt := hp.wt
    refine ⟨n, f, ?_, fun j hj => ?_, fun w' hw => hsh.num (GV.up _ _ _ _ hv hw), fun j kid hj w' hw => (hsh.spec hp hj (GV.up _ _ _ _ hv hw)).mono fun e w2 ⟨v, h1, h2, h3⟩ => ⟨v, h1, h2, h3.now⟩, fun j kid hj hb w' hw => (hsh.part hp A1 _ c1 A2 _ c2 A3 _ c3 A4 _ c4 j w' ⟨by omega, hb⟩ fun w2 hw2 => hge w2 (hw.trans hw2)).2 j kid rfl hj, fun i hi ho w' hw => (hsh.part hp A1 _ c1 A2 _ c2 A3 _ c3 A4 _ c4 i w' hi fun w2 hw2 => hge w2 (hw.trans hw2)).1 ho⟩
    · cases hsh with
      | two hk hr => unfold weightD at hwt; rw [List.length_map, cum_len] at hwt; omega
      | @three segss hr =>
        have hl1 := lens_len ((cums s 0 segss).map (·.map Int.ofNat))
        rw [List.length_map, cums_len] at hl1
        unfold weightD at hwt; omega
    · cases hr with
      | mk a0 a1 a2 a3 a4 a5 a6 a7 ak a8 =>
      cases hsh with
      | @two _ kk segs hk hrr =>
        have hm := List.getElem_mem hj
        refine ⟨_, by dsimp only; rw [List.getElem?_eq_getElem hj]; rfl, ?_⟩
        exact .mk (by have := seg_len_le hm; omega) (by simp) (by simp) (by simp) (fun x hx => a4 x (mem_fwd hm hx)) (by simp) (by simp) (by simp) ⟨by rcases hk with ⟨rfl, rfl⟩ | ⟨rfl, rfl⟩ | ⟨rfl, rfl⟩ <;> decide, ak.2.1, by decide⟩ (by simp)
      | @three segss hrr =>
        have hm := List.getElem_mem hj
        refine ⟨_, by dsimp only; rw [List.getElem?_eq_getElem hj]; rfl, ?_⟩
        have hfs := segs_len_le hm
        have hl4 := flat_lens s segss 0
        unfold weightD at hwt
        have hsl : segss[j].length ≤ segss.flatten.length := by
          obtain ⟨a, b, hab⟩ := List.append_of_mem hm
          have := congrArg (fun q => q.flatten.length) hab
          simp only [List.flatten_append, List.flatten_cons, List.length_append] at this
          omega
        exact .mk (by omega) (by rw [List.length_map, cum_len]; omega) (by simp) (by simp) (fun x hx => a4 x (by
          have h1 : x ∈ fwd segss.flatten := by
            obtain ⟨q, hq, hx2⟩ := List.mem_flatten.1 hx
            obtain ⟨rows, hrows, rfl⟩ := List.mem_map.1 hq
            exact mem_fwd (List.mem_flatten.2 ⟨_, hm, hrows⟩) hx2
          exact h1)) (by simp) (fun x hx => by
          obtain ⟨y, hy, rfl⟩ := List.mem_map.1 hx
          have := cum_le s _ (fun rows h r h2 => hrr _ hm rows h r h2) y hy
          refine WalkArith.wf_i64 ⟨?_, ?_⟩ <;> simp <;> omega) (by simp) ⟨by decide, ak.2.1, by decide⟩ (by simp)
def OneP (w : World) (e : Ending) (w' : World) : Prop := (∃ k l r A1 n1 c1 A2 n2 c2 A3 n3 c3 A4 n4 c4, e = .returned (.tuple #[Geo7 k l r A1 n1 c1 A2 n2 c2 A3 n3 c3 A4 n4 c4, .bool true])) ∧ Grow w w'
theorem partOne (b b2 : Nat) (w : World) (h0 : w.cell? ⟨b, 0, none⟩ = some (.float .f64 4607182418800017408)) (h1 : w.cell? ⟨b, 1, none⟩ = some (.float .f64 4611686018427387904)) (h2 : w.cell? ⟨b2, 0, none⟩ = some (.int .i64 2)) :
    Calls Try.prog 18 #[Geo7 3 1 0 (some ⟨b, 0, none⟩) 2 2 (some ⟨b2, 0, none⟩) 1 1 none 0 0 none 0 0, .int .i64 0] w (OneP w) := by
  have hgv : ∀ w', Grow w w' → GV (.mk 3 1 0 [4607182418800017408, 4611686018427387904] [2] [] []) (Geo7 3 1 0 (some ⟨b, 0, none⟩) 2 2 (some ⟨b2, 0, none⟩) 1 1 none 0 0 none 0 0) w' := fun w' hw => by
    unfold GV
    refine ⟨_, _, _, none, 0, rfl, Nat.le_refl _, ⟨_, 2, rfl, Nat.le_refl _, .inr ⟨b, 0, rfl, fun i x hi => ?_⟩⟩, isl_row rfl (Nat.le_refl _) fun i x hi => ?_, ⟨[], ⟨none, 0, rfl, Nat.le_refl _, .inl rfl⟩, All2.nil⟩, .inl rfl⟩
    · match i, hi with
      | 0, hi => cases hi; exact up_cell h0 hw
      | 1, hi => cases hi; exact up_cell h1 hw
      | n + 2, hi => simp at hi
    · match i, hi with
      | 0, hi => cases hi; exact up_cell h2 hw
      | n + 1, hi => simp at hi
  have hk : KindOk 3 2 ([4607182418800017408, 4611686018427387904] : List Nat).length [2] [] := .inr (.inr (.inl ⟨.inl rfl, rfl, ⟨by decide, by decide, by decide, trivial⟩, rfl⟩))
  have hpg : PlainG 3 1 [4607182418800017408, 4611686018427387904] [2] [] [] 2 := ⟨rfl, by decide, by decide, by decide, by decide, by decide, by decide, by decide, hk⟩
  have hgood : GoodF (.mk 3 1 0 [4607182418800017408, 4611686018427387904] [2] [] []) := .plain (by decide) (by decide) (by decide) hk
  have hlay : LayF 9 (.mk 3 1 0 [4607182418800017408, 4611686018427387904] [2] [] []) := .mk (by decide) (by simp) (by simp)
  have hreach : Reach44 (.mk 3 1 0 [4607182418800017408, 4611686018427387904] [2] [] []) := .mk (by decide) (by decide) (by simp) (by simp) (by decide) (by simp) (by decide) (by simp) ⟨by decide, by decide, by decide⟩ (by simp)
  have hsh : PSh 2 1 3 [4607182418800017408, 4611686018427387904] [2] [] [] 1 (fun i => [[[4607182418800017408, 4611686018427387904]]][i]?.map fun rows => GT.mk 8 1 0 rows.flatten [] [] []) := PSh.two (segs := [[[4607182418800017408, 4611686018427387904]]]) (.inl ⟨rfl, rfl⟩) (by simp)
  refine ((hsh.part hpg _ 2 2 _ 1 1 _ 0 0 _ 0 0 0 w ⟨by decide, by decide⟩ fun w' hw => geoG _ _ w' hgood hlay hreach (hgv w' hw)).2 0 _ rfl rfl).mono ?_
  rintro e w' ⟨v, rfl, hg, hv⟩
  obtain ⟨k, l, r, A1, n1, c1, A2, n2, c2, A3, n3, c3, A4, n4, c4, rfl⟩ := hv.form
  exact ⟨⟨k, l, r, A1, n1, c1, A2, n2, c2, A3, n3, c3, A4, n4, c4, rfl⟩, hg⟩
set_option maxRecDepth 100000 in
set_option maxHeartbeats 16000000 in
theorem law_calls (g : GT) (gv : Value) (i : Int) (w : World) (hg : GV g gv w) (hr : Reach44 g) (hwi : (Lit.int .i64 i).wf = true) : Calls Try.prog 5 #[gv, .int .i64 i] w (LawQ w) := by
  have HGV := Lib.hid hg
  obtain ⟨k, l, r, fl, en, ens, kids, A1, c1, A2, c2, A3, c3, A4, c4, rfl, rfl, hfl, hen, hens⟩ := hg.seven
  have HFT := Lib.hid (fun w' (hw : Grow w w') => fits2_calls _ _ w' hr (GV.up _ _ _ _ HGV.out hw))
  have HRR := Lib.hid hr
  have HHP := Lib.hid (fun w' (hw : Grow w w') => gHasParts_calls k l r fl en ens kids _ w' hr (GV.up _ _ _ _ HGV.out hw))
  clear hg hfl hen hens
  go_enter Try.func5, Try.ntmps5
  go_wp2_with fail
  refine (HFT.out _ ((Grow.refl w).alloc _)).mono ?_
  rintro e w1 ⟨r1, rfl, hg1, hr1⟩
  have H71 : Hid (Seven w.heap.size 0 k l r A1 fl.length c1 A2 en.length c2 A3 ens.length c3 A4 kids.length c4 w1) := ⟨up_cell (by go_simp) hg1, up_cell (by go_simp) hg1, up_cell (by go_simp) hg1, up_cell (by go_simp) hg1, up_cell (by go_simp) hg1, up_cell (by go_simp) hg1, up_cell (by go_simp) hg1⟩
  have HG1 := Lib.hid (((Grow.refl w).alloc _).trans hg1)
  have HR1 := Lib.hid hr1
  clear hg1 hr1
  cases r1 with
  | false =>
    go_wp2
    go_ret
    exact ⟨rfl, HG1.out⟩
  | true =>
    have H31 := Lib.hid (HR1.out (by first | rfl | trivial))
    obtain ⟨q0, q1, q2, q3, q4, q5, q6⟩ := H71.out
    simp only [Nat.zero_add] at q1 q2 q3 q4 q5 q6
    have lt1 : w.heap.size < w1.heap.size := cell_ltH q0
    go_wp2_with fail
    refine (HHP.out _ HG1.out).mono ?_
    rintro e w2 ⟨r2, rfl, hg2, hr2⟩
    have HG2 := Lib.hid (HG1.out.trans hg2)
    have H72 := Lib.hid (Seven.up _ _ H71.out hg2)
    have HR2 := Lib.hid hr2
    clear hg2 hr2
    clear q0 q1 q2 q3 q4 q5 q6
    obtain ⟨q0, q1, q2, q3, q4, q5, q6⟩ := H72.out
    simp only [Nat.zero_add] at q1 q2 q3 q4 q5 q6
    have lt2 : w.heap.size < w2.heap.size := cell_ltH q0
    cases r2 with
    | false =>
      clear q0 q1 q2 q3 q4 q5 q6
      go_wp2
      go_ret
      exact ⟨rfl, HG2.out⟩
    | true =>
      obtain ⟨hgood, h3, h7⟩ := HR2.out (by first | rfl | trivial)
      obtain ⟨N, f, hpa⟩ := parts_all hgood H31.out HRR.out h3 h7 HGV.out
      have HPA := Lib.hid hpa
      have hN := hpa.n
      clear hgood h3 h7 hpa
      by_cases hr0 : r = 0
      case neg =>
        have hrn : (r != 0) = true := by simpa using hr0
        clear hr0
        go_wp2
        go_ret
        exact ⟨rfl, HG2.out⟩
      have hrn : (r != 0) = false := by simp [hr0]
      clear hr0
      have hwi2 := wf_le hwi
      clear hwi
      by_cases hin : 0 ≤ i ∧ i < (N : Int)
      case pos =>
        obtain ⟨j, rfl⟩ : ∃ j : Nat, i = j := ⟨i.toNat, by omega⟩
        have hjN : j < N := by omega
        obtain ⟨kid, hf, hreach⟩ := HPA.out.x j hjN
        have HF := Lib.hid hf; have HRK := Lib.hid hreach
        have HIN := Lib.hid (HPA.out.inn j kid hf hwi2.2)
        have HSPEC := Lib.hid (HPA.out.spec j kid hf)
        have HNUM := Lib.hid HPA.out.num
        have hj0 : (0 : Int) ≤ (j : Int) := by omega
        have hjN2 : (j : Int) < (N : Int) := by omega
        clear hf hreach hin HPA
        go_wp2_with fail
        refine (HIN.out _ HG2.out).mono ?_
        rintro e w3 ⟨v3, rfl, hg3, hv3⟩
        obtain ⟨k3, l3, r3, A13, n13, c13, A23, n23, c23, A33, n33, c33, A43, n43, c43, rfl⟩ := hv3.form
        have HV3 := Lib.hid hv3
        have HG3 := Lib.hid (HG2.out.trans hg3)
        have H73 := Lib.hid (Seven.up _ _ H72.out hg3)
        clear hg3 hv3 q0 q1 q2 q3 q4 q5 q6
        go_wp2_with fail
        refine (partOne (w3.heap.size + 1) (w3.heap.size + 1 + 1) _ (by go_simp) (by go_simp) (by go_simp)).mono ?_
        rintro e w4 ⟨⟨k4, l4, r4, A14, n14, c14, A24, n24, c24, A34, n34, c34, A44, n44, c44, rfl⟩, hg4⟩
        have y0 := up_cell (a := ⟨w3.heap.size, 0, none⟩) (v := .int .i64 k3) (by go_simp) hg4
        have y1 := up_cell (a := ⟨w3.heap.size, 1, none⟩) (v := .int .i64 l3) (by go_simp) hg4
        have y2 := up_cell (a := ⟨w3.heap.size, 2, none⟩) (v := .int .i64 r3) (by go_simp) hg4
        have y3 := up_cell (a := ⟨w3.heap.size, 3, none⟩) (v := .slice A13 n13 c13) (by go_simp) hg4
        have y4 := up_cell (a := ⟨w3.heap.size, 4, none⟩) (v := .slice A23 n23 c23) (by go_simp) hg4
        have y5 := up_cell (a := ⟨w3.heap.size, 5, none⟩) (v := .slice A33 n33 c33) (by go_simp) hg4
        have y6 := up_cell (a := ⟨w3.heap.size, 6, none⟩) (v := .slice A43 n43 c43) (by go_simp) hg4
        have hg34 := ((((Grow.refl w3).alloc _).alloc _).alloc _).trans hg4
        have HG4 := Lib.hid (HG3.out.trans hg34)
        have H74 := Lib.hid (Seven.up _ _ H73.out hg34)
        have HV4 := Lib.hid (GV.up _ _ _ _ HV3.out hg34)
        have H74h : Hid (Seven w3.heap.size 0 k3 l3 r3 A13 n13 c13 A23 n23 c23 A33 n33 c33 A43 n43 c43 w4) := ⟨y0, y1, y2, y3, y4, y5, y6⟩
        clear hg4 hg34 y0 y1 y2 y3 y4 y5 y6
        obtain ⟨q0, q1, q2, q3, q4, q5, q6⟩ := H74.out
        simp only [Nat.zero_add] at q1 q2 q3 q4 q5 q6
        have lt4 : w.heap.size < w4.heap.size := cell_ltH q0
        go_wp2_with fail
        refine (HNUM.out _ (HG4.out.alloc _)).mono ?_
        rintro e w5 ⟨rfl, hg5⟩
        have hg45 := ((Grow.refl w4).alloc _).trans hg5
        have HG5 := Lib.hid (HG4.out.trans hg45)
        have H75 := Lib.hid (Seven.up _ _ H74.out hg45)
        have HV5 := Lib.hid (GV.up _ _ _ _ HV4.out hg45)
        have H75h := Lib.hid (Seven.up _ _ H74h.out hg45)
        clear hg5 hg45 q0 q1 q2 q3 q4 q5 q6
        obtain ⟨q0, q1, q2, q3, q4, q5, q6⟩ := H75.out
        simp only [Nat.zero_add] at q1 q2 q3 q4 q5 q6
        have lt5 : w.heap.size < w5.heap.size := cell_ltH q0
        obtain ⟨y0, y1, y2, y3, y4, y5, y6⟩ := H75h.out
        simp only [Nat.zero_add] at y1 y2 y3 y4 y5 y6
        have lth : w3.heap.size < w5.heap.size := cell_ltH y0
        go_wp2
        refine wp_region_grow_tail 14 (fun i => if i = 13 then some (fun _ _ V ww => GV kid V ww) else none) (by kernel_rfl) (by kernel_rfl) ?_ ?_
        · intro i Φ h lo hi v
          (repeat' split at h) <;> cases h
          · exact fun _ _ h hg => GV.up _ _ _ _ h hg
        simp only [List.take_succ_cons, List.take_zero, List.drop_succ_cons, List.drop_zero]
        repeat (first
          | (refine wpGrow_skip (by rfl) ?_; simp only [Act.put, List.setIfInBounds_toArray, List.set_cons_zero, List.set_cons_succ, Nat.reduceAdd])
          | (refine wpGrow_det' (by rfl) (by rfl) ?_; apply Exists.intro; refine ⟨fun w' hc hh => ?_, ?_⟩; (have hcell := grow_cell hc; clear hc hh; go_simp; rfl); simp only [Act.put, List.setIfInBounds_toArray, List.set_cons_zero, List.set_cons_succ, Nat.reduceAdd]))
        refine wpGrow_eff' (by rfl) (by rfl) (fun w' hc hh => ?_) (fun v lo hi w' hap hc hh hv => ?_)
        · have HC := Lib.hid hc
          clear hc hh
          go_simp
          go_at_call 21
          refine (HSPEC.out _ (HG5.out.trans HC.out)).mono ?_
          rintro e w6 ⟨v6, rfl, hg6, hv6⟩
          exact EffPost.mk hg6 hv6
        obtain ⟨k6, l6, r6, A16, n16, c16, A26, n26, c26, A36, n36, c36, A46, n46, c46, rfl⟩ := hv.form
        clear hv
        clear hc hh hap w'
        simp only [Act.put, List.setIfInBounds_toArray, List.set_cons_zero, List.set_cons_succ, Nat.reduceAdd]
        repeat (first
          | (refine wpGrow_skip (by rfl) ?_; simp only [Act.put, List.setIfInBounds_toArray, List.set_cons_zero, List.set_cons_succ, Nat.reduceAdd])
          | (refine wpGrow_det' (by rfl) (by rfl) ?_; apply Exists.intro; refine ⟨fun w' hc hh => ?_, ?_⟩; (have hcell := grow_cell hc; clear hc hh; go_simp; rfl); simp only [Act.put, List.setIfInBounds_toArray, List.set_cons_zero, List.set_cons_succ, Nat.reduceAdd]))
        refine wpGrow_nil ?_
        intro w1 hg hh
        have HVS := Lib.hid (show GV kid _ _ from (hh 13).1)
        have HG6 := Lib.hid (HG5.out.trans hg)
        have HV6 := Lib.hid (GV.up _ _ _ _ HV5.out hg)
        clear hh hg
        go_wp2_with (go_at_call 20; refine (sameGeom_calls _ _ _ _ HRK.out HV6.out HVS.out).mono ?_; rintro e w7 ⟨rfl, hg7⟩; have HG7 := Lib.hid (HG6.out.trans hg7); clear hg7)
        go_ret
        exact ⟨by first | rfl | simp, HG7.out⟩
      case neg =>
        have hout : i < 0 ∨ (N : Int) ≤ i := by omega
        have HOUT := Lib.hid (HPA.out.out i hwi2 hout)
        have HNUM := Lib.hid HPA.out.num
        have HHO := Lib.hid hout
        clear hin hout HPA
        go_wp2_with fail
        refine (HOUT.out _ HG2.out).mono ?_
        rintro e w3 ⟨rfl, hg3⟩
        have HG3 := Lib.hid (HG2.out.trans hg3)
        have H73 := Lib.hid (Seven.up _ _ H72.out hg3)
        clear hg3 q0 q1 q2 q3 q4 q5 q6
        go_wp2_with fail
        refine (partOne (w3.heap.size + 1) (w3.heap.size + 1 + 1) _ (by go_simp) (by go_simp) (by go_simp)).mono ?_
        rintro e w4 ⟨⟨k4, l4, r4, A14, n14, c14, A24, n24, c24, A34, n34, c34, A44, n44, c44, rfl⟩, hg4⟩
        have hg34 := ((((Grow.refl w3).alloc _).alloc _).alloc _).trans hg4
        have HG4 := Lib.hid (HG3.out.trans hg34)
        have H74 := Lib.hid (Seven.up _ _ H73.out hg34)
        clear hg4 hg34
        obtain ⟨q0, q1, q2, q3, q4, q5, q6⟩ := H74.out
        simp only [Nat.zero_add] at q1 q2 q3 q4 q5 q6
        have lt4 : w.heap.size < w4.heap.size := cell_ltH q0
        by_cases hi0 : i < 0
        · have hd : decide (0 ≤ i) = false := by simp; omega
          clear hi0
          go_wp2
          refine wp_region_grow (fun i => none) (by kernel_rfl) (by kernel_rfl) ?_ ?_
          · intro i Φ h lo hi v
            cases h
          repeat (first
            | (refine wpGrow_skip (by rfl) ?_; simp only [Act.put, List.setIfInBounds_toArray, List.set_cons_zero, List.set_cons_succ, Nat.reduceAdd])
            | (refine wpGrow_det' (by rfl) (by rfl) ?_; apply Exists.intro; refine ⟨fun w' hc hh => ?_, ?_⟩; (have hcell := grow_cell hc; clear hc hh; go_simp; rfl); simp only [Act.put, List.setIfInBounds_toArray, List.set_cons_zero, List.set_cons_succ, Nat.reduceAdd]))
          refine wpGrow_nil ?_
          intro w1 hg hh
          have HG5 := Lib.hid ((HG4.out.alloc _).trans hg)
          clear hh hg
          go_wp2
          go_ret
          exact ⟨by first | rfl | simp, HG5.out⟩
        · have hd : decide (0 ≤ i) = true := by simp; omega
          have hd2 : 0 ≤ i := by omega
          have hd3 : decide (i < (N : Int)) = false := by have := HHO.out; simp; omega
          clear hi0
          go_wp2_with fail
          refine (HNUM.out _ (HG4.out.alloc _)).mono ?_
          rintro e w5 ⟨rfl, hg5⟩
          have HG5 := Lib.hid ((HG4.out.alloc _).trans hg5)
          clear hg5 q0 q1 q2 q3 q4 q5 q6
          go_wp2
          refine wp_region_grow (fun i => none) (by kernel_rfl) (by kernel_rfl) ?_ ?_
          · intro i Φ h lo hi v
            cases h
          repeat (first
            | (refine wpGrow_skip (by rfl) ?_; simp only [Act.put, List.setIfInBounds_toArray, List.set_cons_zero, List.set_cons_succ, Nat.reduceAdd])
            | (refine wpGrow_det' (by rfl) (by rfl) ?_; apply Exists.intro; refine ⟨fun w' hc hh => ?_, ?_⟩; (have hcell := grow_cell hc; clear hc hh; go_simp; rfl); simp only [Act.put, List.setIfInBounds_toArray, List.set_cons_zero, List.set_cons_succ, Nat.reduceAdd]))
          refine wpGrow_nil ?_
          intro w1 hg hh
          have HG6 := Lib.hid (HG5.out.trans hg)
          clear hh hg
          go_wp2
          go_ret
          exact ⟨by first | rfl | simp, HG6.out⟩
end Go.Proofs.Ytemobphkgbhhhaa
