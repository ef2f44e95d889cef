import Derived.Test.YtemobphkgbhhhaaLenM
import Derived.Test.YtemobphkgbhhhaaPlHol
namespace Go.Proofs.Ytemobphkgbhhhaa
open Go.ChangeShapes Go.WideShapes Go.ChangeAt Go.RowKit Go.GrowR
set_option linter.unusedVariables false
set_option linter.unusedSimpArgs false

def LawQ (w : World) (e : Ending) (w' : World) : Prop := e = .returned (.bool true) ∧ Grow w w'
def OneQ (w : World) (e : Ending) (w' : World) : Prop := (∃ z : Nat, e = .returned (.tuple #[.float .f64 z, .bool true])) ∧ Grow w w'
theorem lenOne (b : Nat) (w : World) (h0 : w.cell? ⟨b, 0, none⟩ = some (.float .f64 4607182418800017408)) (h1 : w.cell? ⟨b, 1, none⟩ = some (.float .f64 4611686018427387904)) :
    Calls Try.prog 16 #[Geo7 1 1 0 (some ⟨b, 0, none⟩) 2 2 none 0 0 none 0 0 none 0 0] w (OneQ w) := by
  have hgv : ∀ w', Grow w w' → GV (.mk 1 1 0 [4607182418800017408, 4611686018427387904] [] [] []) (Geo7 1 1 0 (some ⟨b, 0, none⟩) 2 2 none 0 0 none 0 0 none 0 0) w' := fun w' hw => by
    unfold GV
    refine ⟨_, _, _, none, 0, rfl, Nat.le_refl _, ⟨_, 2, rfl, Nat.le_refl _, .inr ⟨b, 0, rfl, fun i x hi => ?_⟩⟩, ISl.nil, ⟨[], ⟨none, 0, rfl, Nat.le_refl _, .inl rfl⟩, All2.nil⟩, .inl rfl⟩
    match i, hi with
    | 0, hi => cases hi; exact up_cell h0 hw
    | 1, hi => cases hi; exact up_cell h1 hw
    | n + 2, hi => simp at hi
  have hk : KindOk 1 2 ([4607182418800017408, 4611686018427387904] : List Nat).length [] [] := .inl ⟨rfl, rfl, rfl, by decide⟩
  have hpg : PlainG 1 1 [4607182418800017408, 4611686018427387904] [] [] [] 2 := ⟨rfl, by decide, by decide, by decide, by decide, by decide, by decide, by decide, hk⟩
  have hgood : GoodF (.mk 1 1 0 [4607182418800017408, 4611686018427387904] [] [] []) := .plain (by decide) (by decide) (by decide) hk
  have hlay : LayF 9 (.mk 1 1 0 [4607182418800017408, 4611686018427387904] [] [] []) := .mk (by decide) (by simp) (by simp)
  have hreach : Reach44 (.mk 1 1 0 [4607182418800017408, 4611686018427387904] [] [] []) := .mk (by decide) (by simp) (by simp) (by simp) (by decide) (by simp) (by simp) (by simp) ⟨by decide, by decide, by decide⟩ (by simp)
  refine (length_calls 1 1 0 _ 2 2 _ 0 0 _ 0 0 _ 0 0 2 _ [] [] [] w (.pt (.inl rfl)) hpg (by simp) fun w' hw => geoG _ _ w' hgood hlay hreach (hgv w' hw)).mono ?_
  rintro e w' ⟨⟨z, ok, rfl, ho, -, -⟩, hg⟩
  rw [ho (by simp)]
  exact ⟨⟨z, rfl⟩, hg⟩
set_option maxRecDepth 100000 in
set_option maxHeartbeats 16000000 in
theorem law_calls (g : GT) (gv : Value) (w : World) (hg : GV g gv w) (hr : Reach44 g) : Calls Try.prog 4 #[gv] w (LawQ w) := by
  have HGV := Lib.hid hg
  obtain ⟨k, l, r, fl, en, ens, kids, A1, c1, A2, c2, A3, c3, A4, c4, rfl, rfl, hfl, hen, hens⟩ := hg.seven
  have HFT := Lib.hid (fun w' (hw : Grow w w') => fits2_calls _ _ w' hr (GV.up _ _ _ _ HGV.out hw))
  have HRR := Lib.hid hr
  have HPL := Lib.hid (fun w' (hw : Grow w w') => gPlain_calls k l r fl en ens kids _ w' hr (GV.up _ _ _ _ HGV.out hw))
  clear hg hfl hen hens
  go_enter Try.func4, Try.ntmps4
  go_wp2_with fail
  refine (HFT.out _ ((Grow.refl w).alloc _)).mono ?_
  rintro e w1 ⟨r1, rfl, hg1, hr1⟩
  have H71 : Hid (Seven w.heap.size 0 k l r A1 fl.length c1 A2 en.length c2 A3 ens.length c3 A4 kids.length c4 w1) := ⟨up_cell (by go_simp) hg1, up_cell (by go_simp) hg1, up_cell (by go_simp) hg1, up_cell (by go_simp) hg1, up_cell (by go_simp) hg1, up_cell (by go_simp) hg1, up_cell (by go_simp) hg1⟩
  have HG1 := Lib.hid (((Grow.refl w).alloc _).trans hg1)
  have HR1 := Lib.hid hr1
  clear hg1 hr1
  cases r1 with
  | false =>
    go_wp2
    go_ret
    exact ⟨rfl, HG1.out⟩
  | true =>
    have H31 := Lib.hid (HR1.out (by first | rfl | trivial))
    obtain ⟨q0, q1, q2, q3, q4, q5, q6⟩ := H71.out
    simp only [Nat.zero_add] at q1 q2 q3 q4 q5 q6
    have lt1 : w.heap.size < w1.heap.size := cell_ltH q0
    go_wp2_with fail
    refine (HPL.out _ HG1.out).mono ?_
    rintro e w2 ⟨r2, rfl, hg2, hr2⟩
    have HG2 := Lib.hid (HG1.out.trans hg2)
    have H72 := Lib.hid (Seven.up _ _ H71.out hg2)
    have HR2 := Lib.hid hr2
    clear hg2 hr2
    clear q0 q1 q2 q3 q4 q5 q6
    obtain ⟨q0, q1, q2, q3, q4, q5, q6⟩ := H72.out
    simp only [Nat.zero_add] at q1 q2 q3 q4 q5 q6
    have lt2 : w.heap.size < w2.heap.size := cell_ltH q0
    cases r2 with
    | false =>
      clear q0 q1 q2 q3 q4 q5 q6
      go_wp2
      go_ret
      exact ⟨rfl, HG2.out⟩
    | true =>
      obtain ⟨hgood, h7⟩ := HR2.out (by first | rfl | trivial)
      obtain ⟨s, hpg⟩ := plainG hgood H31.out h7
      have hk0 := hpg.kids0
      subst hk0
      obtain ⟨segs, hsh⟩ := LSh.ex (by have := hpg.s2; omega) hpg.dk (by have := hpg.md; omega)
      have HGE := Lib.hid (fun w' (hw : Grow w w') => geoG _ _ w' hgood.1 hgood.2.1 HRR.out (GV.up _ _ _ _ HGV.out hw))
      have HEC : Hid (∀ w', Grow w w' → Calls Try.prog 10 #[Geo7 k l r A1 fl.length c1 A2 en.length c2 A3 ens.length c3 A4 0 c4, .func (Fn.func 11) #[] #[]] w' (WholeP (fl.all w20) w')) := fun w' hw => by
        obtain ⟨k', l', r', fl', en', ens', kids', B1, d1, B2, d2, B3, d3, B4, d4, he, hv, hf, -, -⟩ := (GV.up _ _ _ _ HGV.out hw).seven
        cases he
        simp only [GeoF, Value.agg.injEq, Array.mk.injEq, List.cons.injEq, Value.slice.injEq] at hv
        obtain ⟨-, -, -, ⟨rfl, -, rfl⟩, -⟩ := hv
        exact eachWholeG _ _ _ _ _ _ _ _ _ _ _ _ fl w' hf (by have := hpg.flat; omega)
      have HAL : Hid (fl.all w20 = true → ∀ w', Grow w w' → Calls Try.prog 12 #[Geo7 k l r A1 fl.length c1 A2 en.length c2 A3 ens.length c3 A4 0 c4] w' (AlQ segs w')) := fun ha w' hw => hsh.along hpg ha (GV.up _ _ _ _ HGV.out hw)
      have HLN : Hid (fl.all w20 = true → ∀ w', Grow w w' → Calls Try.prog 16 #[Geo7 k l r A1 fl.length c1 A2 en.length c2 A3 ens.length c3 A4 0 c4] w' (LnQ ens segs w')) := fun ha w' hw => length_calls k l r _ _ _ _ _ _ _ _ _ _ _ _ s fl en ens segs w' hsh hpg ((hsh.bd hpg).w ha) fun w2 hw2 => HGE.out w2 (hw.trans hw2)
      have HHO : Hid (∀ w', Grow w w' → Calls Try.prog 9 #[Geo7 k l r A1 fl.length c1 A2 en.length c2 A3 ens.length c3 A4 0 c4] w' (HolQ ens w')) := fun w' hw => by
        obtain ⟨k', l', r', fl', en', ens', kids', B1, d1, B2, d2, B3, d3, B4, d4, he, hv, -, -, hens⟩ := (GV.up _ _ _ _ HGV.out hw).seven
        cases he
        simp only [GeoF, Value.agg.injEq, Array.mk.injEq, List.cons.injEq, Value.slice.injEq] at hv
        obtain ⟨-, -, -, -, -, ⟨rfl, -, rfl⟩, -⟩ := hv
        exact gHollow_calls _ _ _ _ _ _ _ _ _ _ _ _ _ _ _ ens w' hens (by have := hpg.wt; have := lens_len ens; unfold weightD at *; omega)
      have HB : Hid (fl.all w20 = true → (lenS segs).natAbs ≤ 2 ^ 53) := fun ha => by
        have hb := hsh.bd hpg
        have h1 := bS_le (s := s) (by have := hpg.s2; omega) segs (hb.w ha)
        have h2 := lenS_bound hpg.s2 segs (hb.w ha)
        have h3 := hb.f; have h4 := hb.n
        omega
      clear hgood h7 hpg hsh
      simp only [List.length_nil] at q6
      have H72' : Hid (Seven w.heap.size 0 k l r A1 fl.length c1 A2 en.length c2 A3 ens.length c3 A4 0 c4 w2) := H72.out
      cases hall : fl.all w20 with
      | false =>
        have HALL := Lib.hid hall
        clear hall
        go_wp2_with fail
        refine (HEC.out _ HG2.out).mono ?_
        rw [HALL.out]
        rintro e w3 ⟨rfl, hg3⟩
        have HG3 := Lib.hid (HG2.out.trans hg3)
        clear hg3
        go_wp2
        go_ret
        exact ⟨rfl, HG3.out⟩
      | true =>
        have HALL := Lib.hid hall
        clear hall
        go_wp2_with fail
        refine (HEC.out _ HG2.out).mono ?_
        rw [HALL.out]
        rintro e w3 ⟨rfl, hg3⟩
        have HG3 := Lib.hid (HG2.out.trans hg3)
        have H73 := Lib.hid (Seven.up _ _ H72'.out hg3)
        clear hg3
        clear q0 q1 q2 q3 q4 q5 q6
        obtain ⟨q0, q1, q2, q3, q4, q5, q6⟩ := H73.out
        simp only [Nat.zero_add] at q1 q2 q3 q4 q5 q6
        have lt3 : w.heap.size < w3.heap.size := cell_ltH q0
        go_wp2_with fail
        refine (HAL.out HALL.out _ HG3.out).mono ?_
        rintro e w4 ⟨n, b, rfl, hnb, hg4⟩
        have HNB := Lib.hid hnb
        have HG4 := Lib.hid (HG3.out.trans hg4)
        have H74 := Lib.hid (Seven.up _ _ H73.out hg4)
        clear hnb hg4
        clear q0 q1 q2 q3 q4 q5 q6
        obtain ⟨q0, q1, q2, q3, q4, q5, q6⟩ := H74.out
        simp only [Nat.zero_add] at q1 q2 q3 q4 q5 q6
        have lt4 : w.heap.size < w4.heap.size := cell_ltH q0
        cases b with
        | false =>
          clear q0 q1 q2 q3 q4 q5 q6
          go_wp2
          go_ret
          exact ⟨rfl, HG4.out⟩
        | true =>
          go_wp2_with fail
          refine (HLN.out HALL.out _ HG4.out).mono ?_
          rintro e w5 ⟨⟨z, ok, rfl, ho1, ho2, ho3⟩, hg5⟩
          have HO1 := Lib.hid ho1; have HO2 := Lib.hid ho2; have HO3 := Lib.hid ho3
          have HG5 := Lib.hid (HG4.out.trans hg5)
          have H75 := Lib.hid (Seven.up _ _ H74.out hg5)
          clear ho1 ho2 ho3 hg5 q0 q1 q2 q3 q4 q5 q6
          go_wp2_with fail
          refine (lenOne w5.heap.size _ (by go_simp) (by go_simp)).mono ?_
          rintro e w6 ⟨⟨z1, rfl⟩, hg6⟩
          have HG6 := Lib.hid ((HG5.out.alloc _).trans hg6)
          have H76 := Lib.hid (Seven.up _ _ H75.out (((Grow.refl w5).alloc _).trans hg6))
          clear hg6
          obtain ⟨q0, q1, q2, q3, q4, q5, q6⟩ := H76.out
          simp only [Nat.zero_add] at q1 q2 q3 q4 q5 q6
          have lt6 : w.heap.size < w6.heap.size := cell_ltH q0
          cases ok with
          | false =>
            go_wp2_with fail
            refine (HHO.out _ HG6.out).mono ?_
            rintro e w7 ⟨b7, rfl, hb1, hb2, hg7⟩
            have hb7 : b7 = true := by
              cases b7 with
              | true => rfl
              | false => exact absurd (HO1.out (hb2 rfl)) (by simp)
            subst hb7
            have HG7 := Lib.hid (HG6.out.trans hg7)
            clear hb1 hb2 hg7
            go_wp2
            go_ret
            exact ⟨by first | rfl | simp, HG7.out⟩
          | true =>
            obtain ⟨hn1, hn2⟩ := HNB.out (by first | rfl | trivial)
            have hb53 := HB.out HALL.out
            rw [← hn2] at hb53
            have hcmp := Fl.eqB (by have := HO3.out (by first | rfl | trivial) hn1; rwa [← hn2] at this) (Fl.ofInt_I n hb53)
            clear hn1 hn2 hb53
            go_wp2_with fail
            refine (HHO.out _ HG6.out).mono ?_
            rintro e w7 ⟨b7, rfl, hb1, hb2, hg7⟩
            have hb7 : b7 = false := by
              cases b7 with
              | false => rfl
              | true => exact absurd (HO2.out (hb1 rfl)) (by simp)
            subst hb7
            have HG7 := Lib.hid (HG6.out.trans hg7)
            clear hb1 hb2 hg7
            go_wp2
            go_ret
            exact ⟨by first | rfl | simp, HG7.out⟩
end Go.Proofs.Ytemobphkgbhhhaa
