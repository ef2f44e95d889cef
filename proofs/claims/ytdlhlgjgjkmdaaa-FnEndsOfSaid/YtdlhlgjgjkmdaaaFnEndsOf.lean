import Derived.Test.YtdlhlgjgjkmdaaaEndsI
namespace Go.Proofs.Ytdlhlgjgjkmdaaa
open Go.ChangeShapes Go.WideShapes Go.ChangeAt Go.RowKit Go.GrowR
set_option linter.unusedVariables false
set_option linter.unusedSimpArgs false

def LawQ (w : World) (e : Ending) (w' : World) : Prop := e = .returned (.bool true) ∧ Grow w w'
theorem gPt : Reach44 (.mk 1 1 0 [4607182418800017408, 4611686018427387904] [] [] []) := .mk (by simp) (by simp) (by simp) (by simp) (by intro x hx; simp at hx; rcases hx with rfl | rfl <;> decide) (by simp) (by simp) (by simp) (by decide) (by simp)
theorem fsl2 (w : World) (a b : Nat) (t : TypeId) : FSl (.slice (some ⟨w.heap.size, 0, none⟩) 2 2) [a, b] (w.alloc (Obj.cells #[.float .f64 a, .float .f64 b] t)) := by
  refine ⟨_, _, rfl, Nat.le_refl _, .inr ⟨w.heap.size, 0, rfl, fun i x hi => ?_⟩⟩
  match i, hi with
  | 0, hi => cases hi; go_simp
  | 1, hi => cases hi; go_simp
  | n + 2, hi => simp at hi
set_option maxRecDepth 100000 in
set_option maxHeartbeats 16000000 in
theorem law_calls (g : GT) (gv : Value) (w : World) (hg : GV g gv w) (hr : Reach44 g) : Calls Try.prog 4 #[gv] w (LawQ w) := by
  have HGV := Lib.hid hg
  obtain ⟨k, l, r, fl, en, ens, kids, A1, c1, A2, c2, A3, c3, A4, c4, rfl, rfl, hfl, hen, hens⟩ := hg.seven
  have HEN := Lib.hid hen
  have HFT := Lib.hid (fun w' (hw : Grow w w') => fits2_calls _ _ w' hr (GV.up _ _ _ _ HGV.out hw))
  have HGG := Lib.hid (fun b c0 w' (hw : Grow w w') h7 => gGoodT _ b c0 _ _ _ _ _ _ _ _ _ _ _ _ _ _ _ w' hr h7 (GV.up _ _ _ _ HGV.out hw))
  have hlen : en.length ≤ 17592186044416 := by cases hr with | mk r0 r1 => exact r1
  clear hg hfl hen hens
  go_enter Try.func4, Try.ntmps4
  go_wp2_with fail
  refine (HFT.out _ ((Grow.refl w).alloc _)).mono ?_
  rintro e w1 ⟨r1, rfl, hg1, hr1⟩
  have H7 : Hid (Seven w.heap.size 0 k l r A1 fl.length c1 A2 en.length c2 A3 ens.length c3 A4 kids.length c4 w1) := ⟨up_cell (by go_simp) hg1, up_cell (by go_simp) hg1, up_cell (by go_simp) hg1, up_cell (by go_simp) hg1, up_cell (by go_simp) hg1, up_cell (by go_simp) hg1, up_cell (by go_simp) hg1⟩
  have HG1 := Lib.hid (((Grow.refl w).alloc _).trans hg1)
  have HR1 := Lib.hid hr1
  clear hg1 hr1
  cases r1 with
  | false =>
    go_wp2
    go_ret
    exact ⟨rfl, HG1.out⟩
  | true =>
    have H31 := Lib.hid (HR1.out (by first | rfl | trivial))
    obtain ⟨q0, q1, q2, q3, q4, q5, q6⟩ := H7.out
    simp only [Nat.zero_add] at q1 q2 q3 q4 q5 q6
    go_wp2_with fail
    refine (HGG.out w1.heap.size _ _ (HG1.out.trans ((Grow.refl w1).alloc _)) ⟨by go_simp, by go_simp, by go_simp, by go_simp, by go_simp, by go_simp, by go_simp⟩).mono ?_
    rintro e w2 ⟨r2, rfl, hg2, hr2⟩
    have hgt := ((Grow.refl w1).alloc _).trans hg2
    have HG2 := Lib.hid (HG1.out.trans hgt)
    have H72 := Lib.hid (Seven.up _ _ H7.out hgt)
    have HR2 := Lib.hid hr2
    clear hg2 hgt hr2 q0 q1 q2 q3 q4 q5 q6
    obtain ⟨q0, q1, q2, q3, q4, q5, q6⟩ := H72.out
    simp only [Nat.zero_add] at q1 q2 q3 q4 q5 q6
    cases r2 with
    | false =>
      clear q0 q1 q2 q3 q4 q5 q6
      go_wp2
      go_ret
      exact ⟨rfl, HG2.out⟩
    | true =>
      obtain ⟨hgood, hlay, -⟩ := HR2.out (by first | rfl | trivial)
      have HGE := Lib.hid (fun w' (hw : Grow w w') => geoG _ _ w' hgood hlay hr (GV.up _ _ _ _ HGV.out hw))
      have HPT := Lib.hid (fun (b : Nat) (w' : World) (hu : FSl (.slice (some ⟨b, 0, none⟩) 2 2) [4607182418800017408, 4611686018427387904] w') => endsOf_calls 1 1 0 (some ⟨b, 0, none⟩) 2 2 none 0 0 none 0 0 none 0 0 2 2 [4607182418800017408, 4611686018427387904] [] [] w' (fun w2 hw => geoPlain (A2 := none) (c2 := 0) (A3 := none) (c3 := 0) (A4 := none) (c4 := 0) (FSl.up _ _ hu hw) ISl.nil ISSl.nil gPt (by decide) (by decide) (.inl ⟨rfl, rfl, rfl, by decide⟩)) (.inl ⟨rfl, rfl, rfl, by decide⟩) (by simp))
      clear hr hlay
      cases hgood with
      | plain hk hl1 hm hd =>
        have HED := Lib.hid (fun w' (hw : Grow w w') => endsOf_calls k l r A1 _ c1 A2 _ c2 A3 _ c3 A4 _ c4 (strideN l) fl.length fl en ens w' (fun w2 hw2 => HGE.out w2 (hw.trans hw2)) hd hlen)
        have ek : (k != 7) = true := by simpa using hk
        clear hk hl1 hm hd
        go_wp2_with fail
        refine (HED.out _ HG2.out).mono ?_
        rintro e w3 ⟨V, rfl, hg3, hown⟩
        obtain ⟨A5, n5, c5, rfl⟩ := VOwn.isSl hown
        have HOW := Lib.hid hown
        have HG3 := Lib.hid (HG2.out.trans hg3)
        have H73 := Lib.hid (Seven.up _ _ H72.out hg3)
        clear hg3 hown q0 q1 q2 q3 q4 q5 q6
        obtain ⟨q0, q1, q2, q3, q4, q5, q6⟩ := H73.out
        simp only [Nat.zero_add] at q1 q2 q3 q4 q5 q6
        go_wp2_with fail
        refine (HPT.out w3.heap.size _ (fsl2 w3 _ _ _)).mono ?_
        rintro e w4 ⟨V4, rfl, hg4, -⟩
        have hg34 := ((Grow.refl w3).alloc _).trans hg4
        have HG4 := Lib.hid (HG3.out.trans hg34)
        have HO4 := Lib.hid (IOwn.up _ _ HOW.out hg34)
        have H74 := Lib.hid (Seven.up _ _ H73.out hg34)
        clear hg34 hg4 q0 q1 q2 q3 q4 q5 q6
        obtain ⟨q0, q1, q2, q3, q4, q5, q6⟩ := H74.out
        simp only [Nat.zero_add] at q1 q2 q3 q4 q5 q6
        go_wp2_with (go_at_call 17; refine (gInts_calls A5 n5 c5 A2 _ c2 en _ hlen (IOwn.is HO4.out) (ISl.up _ _ HEN.out HG4.out)).mono ?_; rintro e w5 ⟨rfl, rfl⟩)
        go_ret
        exact ⟨rfl, HG4.out⟩
      | coll g0 g1 g2 =>
        have HED := Lib.hid (fun w' (hw : Grow w w') => endsOf_col l r A1 _ c1 A2 _ c2 A3 _ c3 A4 _ c4 kids w' (fun w2 hw2 => HGE.out w2 (hw.trans hw2)))
        clear g0 g1 g2
        go_wp2_with fail
        refine (HED.out _ HG2.out).mono ?_
        rintro e w3 ⟨rfl, hg3⟩
        have HG3 := Lib.hid (HG2.out.trans hg3)
        have H73 := Lib.hid (Seven.up _ _ H72.out hg3)
        clear hg3 q0 q1 q2 q3 q4 q5 q6
        obtain ⟨q0, q1, q2, q3, q4, q5, q6⟩ := H73.out
        simp only [Nat.zero_add] at q1 q2 q3 q4 q5 q6
        go_wp2_with fail
        refine (HPT.out w3.heap.size _ (fsl2 w3 _ _ _)).mono ?_
        rintro e w4 ⟨V4, rfl, hg4, -⟩
        have hg34 := ((Grow.refl w3).alloc _).trans hg4
        have HG4 := Lib.hid (HG3.out.trans hg34)
        have H74 := Lib.hid (Seven.up _ _ H73.out hg34)
        clear hg34 hg4 q0 q1 q2 q3 q4 q5 q6
        obtain ⟨q0, q1, q2, q3, q4, q5, q6⟩ := H74.out
        simp only [Nat.zero_add] at q1 q2 q3 q4 q5 q6
        go_wp2
        go_ret
        exact ⟨rfl, HG4.out⟩
end Go.Proofs.Ytdlhlgjgjkmdaaa
