import Derived.Test.YtdlhlgjgjkmdaaaNewI
import Derived.Test.YtdlhlgjgjkmdaaaSameT
namespace Go.Proofs.Ytdlhlgjgjkmdaaa
open Go.ChangeShapes Go.WideShapes Go.ChangeAt Go.RowKit Go.GrowR
set_option linter.unusedVariables false
set_option linter.unusedSimpArgs false

def LawQ (w : World) (e : Ending) (w' : World) : Prop := e = .returned (.bool true) ∧ Grow w w'
set_option maxRecDepth 100000 in
set_option maxHeartbeats 16000000 in
theorem law_calls (g : GT) (gv : Value) (w : World) (hg : GV g gv w) (hr : Reach44 g) : Calls Try.prog 6 #[gv] w (LawQ w) := by
  have HGV := Lib.hid hg
  obtain ⟨k, l, r, fl, en, ens, kids, A1, c1, A2, c2, A3, c3, A4, c4, rfl, rfl, hfl, hen, hens⟩ := hg.seven
  have HFT := Lib.hid (fun w' (hw : Grow w w') => fits2_calls _ _ w' hr (GV.up _ _ _ _ HGV.out hw))
  have HRR := Lib.hid hr
  have HGG := Lib.hid (fun b c0 w' (hw : Grow w w') h7 => gGoodT _ b c0 _ _ _ _ _ _ _ _ _ _ _ _ _ _ _ w' hr h7 (GV.up _ _ _ _ HGV.out hw))
  clear hg hfl hen hens
  go_enter Try.func6, Try.ntmps6
  go_wp2_with fail
  refine (HFT.out _ ((Grow.refl w).alloc _)).mono ?_
  rintro e w1 ⟨r1, rfl, hg1, hr1⟩
  have H71 : Hid (Seven w.heap.size 0 k l r A1 fl.length c1 A2 en.length c2 A3 ens.length c3 A4 kids.length c4 w1) := ⟨up_cell (by go_simp) hg1, up_cell (by go_simp) hg1, up_cell (by go_simp) hg1, up_cell (by go_simp) hg1, up_cell (by go_simp) hg1, up_cell (by go_simp) hg1, up_cell (by go_simp) hg1⟩
  have HG1 := Lib.hid (((Grow.refl w).alloc _).trans hg1)
  have HR1 := Lib.hid hr1
  clear hg1 hr1
  cases r1 with
  | false =>
    go_wp2
    go_ret
    exact ⟨rfl, HG1.out⟩
  | true =>
    have H31 := Lib.hid (HR1.out (by first | rfl | trivial))
    obtain ⟨q0, q1, q2, q3, q4, q5, q6⟩ := H71.out
    simp only [Nat.zero_add] at q1 q2 q3 q4 q5 q6
    have lt1 : w.heap.size < w1.heap.size := cell_ltH q0
    go_wp2_with fail
    refine (HGG.out w1.heap.size _ _ (HG1.out.trans ((Grow.refl w1).alloc _)) ⟨by go_simp, by go_simp, by go_simp, by go_simp, by go_simp, by go_simp, by go_simp⟩).mono ?_
    rintro e w2 ⟨r2, rfl, hg2, hr2⟩
    have hgt := ((Grow.refl w1).alloc _).trans hg2
    have HG2 := Lib.hid (HG1.out.trans hgt)
    have H72 := Lib.hid (Seven.up _ _ H71.out hgt)
    have HR2 := Lib.hid hr2
    clear hg2 hgt hr2
    clear q0 q1 q2 q3 q4 q5 q6
    obtain ⟨q0, q1, q2, q3, q4, q5, q6⟩ := H72.out
    simp only [Nat.zero_add] at q1 q2 q3 q4 q5 q6
    have lt2 : w.heap.size < w2.heap.size := cell_ltH q0
    cases r2 with
    | false =>
      clear q0 q1 q2 q3 q4 q5 q6
      go_wp2
      go_ret
      exact ⟨rfl, HG2.out⟩
    | true =>
      obtain ⟨hgood, hlay, hwt⟩ := HR2.out (by first | rfl | trivial)
      have HGE := Lib.hid (fun w' (hw : Grow w w') => geoG _ _ w' hgood hlay HRR.out (GV.up _ _ _ _ HGV.out hw))
      have HGO := Lib.hid hgood
      go_wp2_with fail
      refine (new_calls _ _ _ _ _ _ _ _ _ _ _ _ _ _ _ _ _ HGO.out HRR.out (fun w' hw => HGE.out w' (HG2.out.trans hw))).mono ?_
      rintro e w3 ⟨v3, rfl, hg3, hv3⟩
      obtain ⟨k', l', r', A1', n1', c1', A2', n2', c2', A3', n3', c3', A4', n4', c4', rfl⟩ := hv3.form
      have HV3 := Lib.hid hv3
      have HG3 := Lib.hid (HG2.out.trans hg3)
      have H73 := Lib.hid (Seven.up _ _ H72.out hg3)
      clear hg3 hv3
      clear q0 q1 q2 q3 q4 q5 q6
      obtain ⟨q0, q1, q2, q3, q4, q5, q6⟩ := H73.out
      simp only [Nat.zero_add] at q1 q2 q3 q4 q5 q6
      have lt3 : w.heap.size < w3.heap.size := cell_ltH q0
      go_wp2_with (go_at_call 24; refine (sameGeom_calls _ _ _ _ HRR.out (GV.up _ _ _ _ HV3.out ((Grow.refl w3).alloc _)) (GV.up _ _ _ _ HGV.out (HG3.out.trans ((Grow.refl w3).alloc _)))).mono ?_; rintro e w5 ⟨rfl, hg5⟩; have HG5 := Lib.hid (HG3.out.trans (((Grow.refl w3).alloc _).trans hg5)); clear hg5)
      go_ret
      exact ⟨rfl, HG5.out⟩
end Go.Proofs.Ytdlhlgjgjkmdaaa
