import Derived.Test.YtdlhlgjgjkmdaaaAreaI
import Derived.Test.YtdlhlgjgjkmdaaaPlainL
namespace Go.Proofs.Ytdlhlgjgjkmdaaa
open Go.ChangeShapes Go.WideShapes Go.ChangeAt Go.RowKit Go.GrowR
set_option linter.unusedVariables false
set_option linter.unusedSimpArgs false

def LawQ (w : World) (e : Ending) (w' : World) : Prop := e = .returned (.bool true) ∧ Grow w w'
theorem lens_mem {nss : List (List Int)} {l : List Int} (h : l ∈ nss) : 1 + l.length ≤ lens nss := by
  unfold lens
  induction nss with
  | nil => simp at h
  | cons q t ih =>
    simp only [List.map_cons, List.sum_cons]
    rcases List.mem_cons.1 h with rfl | h
    · omega
    · have := ih h; omega
theorem lens_len (nss : List (List Int)) : nss.length ≤ lens nss := by
  unfold lens
  induction nss with
  | nil => simp
  | cons l t ih => simp only [List.map_cons, List.sum_cons, List.length_cons]; omega
set_option maxRecDepth 100000 in
set_option maxHeartbeats 1000000 in
theorem law_calls (g : GT) (gv : Value) (w : World) (hg : GV g gv w) (hr : Reach44 g) : Calls Try.prog 7 #[gv] w (LawQ w) := by
  have HGV := Lib.hid hg
  obtain ⟨k, l, r, fl, en, ens, kids, A1, c1, A2, c2, A3, c3, A4, c4, rfl, rfl, hfl, hen, hens⟩ := hg.seven
  have HFT := Lib.hid (fun w' (hw : Grow w w') => fits2_calls _ _ w' hr (GV.up _ _ _ _ HGV.out hw))
  have HRR := Lib.hid hr
  have HGG := Lib.hid (fun b c0 w' (hw : Grow w w') h7 => gGoodT _ b c0 _ _ _ _ _ _ _ _ _ _ _ _ _ _ _ w' hr h7 (GV.up _ _ _ _ HGV.out hw))
  clear hg hfl hen hens
  go_enter Try.func7, Try.ntmps7
  go_wp2_with fail
  refine (HFT.out _ ((Grow.refl w).alloc _)).mono ?_
  rintro e w1 ⟨r1, rfl, hg1, hr1⟩
  have H71 : Hid (Seven w.heap.size 0 k l r A1 fl.length c1 A2 en.length c2 A3 ens.length c3 A4 kids.length c4 w1) := ⟨up_cell (by go_simp) hg1, up_cell (by go_simp) hg1, up_cell (by go_simp) hg1, up_cell (by go_simp) hg1, up_cell (by go_simp) hg1, up_cell (by go_simp) hg1, up_cell (by go_simp) hg1⟩
  have HG1 := Lib.hid (((Grow.refl w).alloc _).trans hg1)
  have HR1 := Lib.hid hr1
  clear hg1 hr1
  cases r1 with
  | false =>
    go_wp2
    go_ret
    exact ⟨rfl, HG1.out⟩
  | true =>
    have H31 := Lib.hid (HR1.out (by first | rfl | trivial))
    obtain ⟨q0, q1, q2, q3, q4, q5, q6⟩ := H71.out
    simp only [Nat.zero_add] at q1 q2 q3 q4 q5 q6
    have lt1 : w.heap.size < w1.heap.size := cell_ltH q0
    go_wp2_with fail
    refine (HGG.out w1.heap.size _ _ (HG1.out.trans ((Grow.refl w1).alloc _)) ⟨by go_simp, by go_simp, by go_simp, by go_simp, by go_simp, by go_simp, by go_simp⟩).mono ?_
    rintro e w2 ⟨r2, rfl, hg2, hr2⟩
    have hgt := ((Grow.refl w1).alloc _).trans hg2
    have HG2 := Lib.hid (HG1.out.trans hgt)
    have H72 := Lib.hid (Seven.up _ _ H71.out hgt)
    have HR2 := Lib.hid hr2
    clear hg2 hgt hr2
    clear q0 q1 q2 q3 q4 q5 q6
    obtain ⟨q0, q1, q2, q3, q4, q5, q6⟩ := H72.out
    simp only [Nat.zero_add] at q1 q2 q3 q4 q5 q6
    have lt2 : w.heap.size < w2.heap.size := cell_ltH q0
    cases r2 with
    | false =>
      clear q0 q1 q2 q3 q4 q5 q6
      go_wp2
      go_ret
      exact ⟨rfl, HG2.out⟩
    | true =>
      obtain ⟨hgood, hlay, hwt⟩ := HR2.out (by first | rfl | trivial)
      have HGE := Lib.hid (fun w' (hw : Grow w w') => geoG _ _ w' hgood hlay HRR.out (GV.up _ _ _ _ HGV.out hw))
      have HGO := Lib.hid hgood
      by_cases h6 : k = 6
      case neg =>
        have e6 : (k != 6) = true := by simpa using h6
        clear hgood hlay hwt h6
        go_wp2
        go_ret
        exact ⟨rfl, HG2.out⟩
      case pos =>
        subst h6
        obtain ⟨s, hpg⟩ := plainG ⟨hgood, hlay, hwt⟩ H31.out (by decide)
        have hk0 := hpg.kids0
        subst hk0
        have hwl := hpg.wt
        obtain ⟨hen0, hd3, hd4⟩ : en = [] ∧ EndsOk s false 0 ens.flatten ∧ lastE 0 ens.flatten = fl.length := by
          rcases hpg.dk with ⟨h, _⟩ | ⟨h, _⟩ | ⟨h, _⟩ | ⟨_, h1, h2, h3⟩
          · omega
          · omega
          · omega
          · exact ⟨h1, h2, h3⟩
        have hs2 := hpg.s2
        obtain ⟨segss, hrw, hfle, hense⟩ := segss_ex (by omega) ens 0 fl hd3 (by simpa using hd4)
        unfold weightD at hwl
        have hlen1 := lens_len ens
        rw [hense, List.length_map, cums_len, ← hense] at hlen1
        have hb2 : ∀ segs ∈ segss, segs.length ≤ 10000 := fun segs h => by
          obtain ⟨i, hi⟩ := List.mem_iff_getElem?.1 h
          have h1 := lens_mem (nss := ens) (l := (cum s (0 + (fwd (segss.take i).flatten).length) segs).map Int.ofNat) (by rw [hense]; exact List.mem_map.2 ⟨_, List.mem_of_getElem? (cums_at hi), rfl⟩)
          rw [List.length_map, cum_len] at h1
          omega
        have hb3 : ∀ segs ∈ segss, ∀ rows ∈ segs, rows.length ≤ 10000 := fun segs h rows h' => by
          have h1 := segs_len_le h
          rw [← hfle] at h1
          have h2 := seg_len_le h'
          rw [flat_len (hrw segs h rows h')] at h2
          have := Nat.le_mul_of_pos_right rows.length (show 0 < s by omega)
          omega
        have HPG := Lib.hid hpg; have HRW := Lib.hid hrw; have HB2 := Lib.hid hb2; have HB3 := Lib.hid hb3
        have HWL := Lib.hid (show (fwd segss.flatten).length ≤ 10000 ∧ segss.length ≤ 10000 by rw [← hfle]; omega)
        have hgvs : ∀ w', Grow w w' → GV (.mk 6 l r (fwd segss.flatten) [] ((cums s 0 segss).map (·.map Int.ofNat)) []) (Geo7 6 l r A1 fl.length c1 A2 en.length c2 A3 ens.length c3 A4 0 c4) w' := fun w' hw => by
          have := GV.up _ _ _ _ HGV.out hw
          rw [hfle, hen0, hense] at this ⊢
          exact this
        have HGVS := Lib.hid hgvs
        have HDK := Lib.hid (show KindOk 6 (strideN l) (fwd segss.flatten).length [] ((cums s 0 segss).map (·.map Int.ofNat)) by have := hpg.dk; rw [hpg.st]; rwa [hfle, hen0, hense] at this)
        have HR44 := Lib.hid (show Reach44 (.mk 6 l r (fwd segss.flatten) [] ((cums s 0 segss).map (·.map Int.ofNat)) []) by have := HRR.out; rwa [hfle, hen0, hense] at this)
        have HC1 : Hid (∀ w', Grow w w' → Calls Try.prog 25 #[Geo7 6 l r A1 fl.length c1 A2 en.length c2 A3 ens.length c3 A4 0 c4] w' (AcQ segss w')) := fun w' hw => areasCoords_calls l r s segss A1 _ c1 A2 _ c2 A3 _ c3 A4 _ c4 w' (by have := HPG.out.s2; omega) HPG.out.s9 HPG.out.st HRW.out HWL.out.1 HWL.out.2 HB2.out HB3.out (fun w2 hw2 => by
          obtain ⟨k0, l0, r0, fl0, en0, ens0, kids0, D1, e1, D2, e2, D3, e3, D4, e4, he, hv, hfl, hen, hens⟩ := (HGVS.out w2 (hw.trans hw2)).seven
          cases he
          rw [hv]
          exact geoPlainB hfl hen hens HR44.out HPG.out.l1 HPG.out.l9 HDK.out)
        have HC2 := Lib.hid (fun w' (hw : Grow w w') => areaPlaces (HGVS.out w' hw) HPG.out.st (by have := HPG.out.s2; omega) HPG.out.s9 HRW.out (by have := HWL.out.1; omega) (by have := HWL.out.2; omega) (fun q h => by have := HB2.out q h; omega))
        have HRO := Lib.hid (show ∀ z ∈ segss, z.length ≤ 10000000000 ∧ ∀ q ∈ z, q.length ≤ 10000000000 ∧ ∀ r ∈ q, r ≠ [] ∧ r.length ≤ 10000000000 from fun z hz => ⟨by have := HB2.out z hz; omega, fun q hq => ⟨by have := HB3.out z hz q hq; omega, fun r hr => by
          have h1 := HRW.out z hz q hq r hr
          have h2 := HPG.out.s2; have h3 := HPG.out.s9
          exact ⟨fun h => by rw [h] at h1; simp at h1; omega, by omega⟩⟩⟩)
        clear hgood hlay hwt hpg hwl hd3 hd4 hs2 hrw hlen1 hb2 hb3 hfle hense hen0 hgvs
        go_wp2_with fail
        refine (HC1.out _ HG2.out).mono ?_
        rintro e w3 ⟨v3, rfl, hg3, hv3⟩
        obtain ⟨A9, c9, h9⟩ := hv3.form
        subst h9
        have HV3 := Lib.hid hv3
        have HG3 := Lib.hid (HG2.out.trans hg3)
        have H73 := Lib.hid (Seven.up _ _ H72.out hg3)
        clear hg3 hv3
        clear q0 q1 q2 q3 q4 q5 q6
        obtain ⟨q0, q1, q2, q3, q4, q5, q6⟩ := H73.out
        simp only [Nat.zero_add] at q1 q2 q3 q4 q5 q6
        have lt3 : w.heap.size < w3.heap.size := cell_ltH q0
        go_wp2_with fail
        refine (HC2.out _ HG3.out).mono ?_
        rintro e w4 ⟨v4, rfl, hg4, hst4⟩
        have HV4 := Lib.hid hst4.now; have HG4 := Lib.hid (HG3.out.trans hg4); have HV34 := Lib.hid (SlE.up (fun _ _ => SlE.up fun _ _ => SlE.up fun _ _ => FSl.up) _ _ HV3.out hg4)
        obtain ⟨A8, c8, h8⟩ := hst4.now.form
        subst h8
        clear hg4 hst4
        go_wp2_with (go_at_call 26; refine (gRowsss_calls _ _ segss w4 HV34.out HV4.out (by have := HWL.out.2; omega) HRO.out).mono ?_; rintro e w5 ⟨rfl, hg5⟩; have HG5 := Lib.hid (HG4.out.trans hg5); clear hg5)
        go_ret
        exact ⟨rfl, HG5.out⟩
end Go.Proofs.Ytdlhlgjgjkmdaaa
