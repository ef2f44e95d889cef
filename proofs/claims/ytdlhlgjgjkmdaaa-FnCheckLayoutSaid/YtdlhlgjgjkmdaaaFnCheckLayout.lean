import Derived.Test.YtdlhlgjgjkmdaaaChkI
namespace Go.Proofs.Ytdlhlgjgjkmdaaa
open Go.ChangeShapes Go.WideShapes Go.ChangeAt Go.RowKit Go.GrowR
set_option linter.unusedVariables false
set_option linter.unusedSimpArgs false

def LawQ (w : World) (e : Ending) (w' : World) : Prop := e = .returned (.bool true) ∧ Grow w w'
theorem gkUp {kids : List GT} {b o : Nat} {w w' : World} (h : GK kids b o w) (hg : Grow w w') : GK kids b o w' := GK_mk fun i g hi => let ⟨v, h8, h9⟩ := GK_at h hi; ⟨v, GCell.up _ _ h8 hg, GV.up _ _ _ _ h9 hg⟩
set_option maxRecDepth 100000 in
set_option maxHeartbeats 16000000 in
theorem law_calls (g : GT) (gv : Value) (ly : Int) (w : World) (hg : GV g gv w) (hr : Reach44 g) : Calls Try.prog 3 #[gv, .int .i64 ly] w (LawQ w) := by
  have HGV := Lib.hid hg
  obtain ⟨k, l, r, fl, en, ens, kids, A1, c1, A2, c2, A3, c3, A4, c4, rfl, rfl, hfl, hen, hens⟩ := hg.seven
  have HFT := Lib.hid (fun w' (hw : Grow w w') => fits2_calls _ _ w' hr (GV.up _ _ _ _ HGV.out hw))
  have HGG := Lib.hid (fun b c0 w' (hw : Grow w w') h7 => gGoodT _ b c0 _ _ _ _ _ _ _ _ _ _ _ _ _ _ _ w' hr h7 (GV.up _ _ _ _ HGV.out hw))
  have hlen : en.length ≤ 17592186044416 := by cases hr with | mk r0 r1 => exact r1
  clear hg hfl hen hens
  go_enter Try.func3, Try.ntmps3
  go_wp2_with fail
  refine (HFT.out _ ((Grow.refl w).alloc _)).mono ?_
  rintro e w1 ⟨r1, rfl, hg1, hr1⟩
  have H7 : Hid (Seven w.heap.size 0 k l r A1 fl.length c1 A2 en.length c2 A3 ens.length c3 A4 kids.length c4 w1) := ⟨up_cell (by go_simp) hg1, up_cell (by go_simp) hg1, up_cell (by go_simp) hg1, up_cell (by go_simp) hg1, up_cell (by go_simp) hg1, up_cell (by go_simp) hg1, up_cell (by go_simp) hg1⟩
  have HG1 := Lib.hid (((Grow.refl w).alloc _).trans hg1)
  have HR1 := Lib.hid hr1
  clear hg1 hr1
  cases r1 with
  | false =>
    go_wp2
    go_ret
    exact ⟨rfl, HG1.out⟩
  | true =>
    have H31 := Lib.hid (HR1.out (by first | rfl | trivial))
    obtain ⟨q0, q1, q2, q3, q4, q5, q6⟩ := H7.out
    simp only [Nat.zero_add] at q1 q2 q3 q4 q5 q6
    go_wp2_with fail
    refine (HGG.out w1.heap.size _ _ (HG1.out.trans ((Grow.refl w1).alloc _)) ⟨by go_simp, by go_simp, by go_simp, by go_simp, by go_simp, by go_simp, by go_simp⟩).mono ?_
    rintro e w2 ⟨r2, rfl, hg2, hr2⟩
    have hgt := ((Grow.refl w1).alloc _).trans hg2
    have HG2 := Lib.hid (HG1.out.trans hgt)
    have H72 := Lib.hid (Seven.up _ _ H7.out hgt)
    have HR2 := Lib.hid hr2
    clear hg2 hgt hr2 q0 q1 q2 q3 q4 q5 q6
    obtain ⟨q0, q1, q2, q3, q4, q5, q6⟩ := H72.out
    simp only [Nat.zero_add] at q1 q2 q3 q4 q5 q6
    cases r2 with
    | false =>
      clear q0 q1 q2 q3 q4 q5 q6
      go_wp2
      go_ret
      exact ⟨rfl, HG2.out⟩
    | true =>
      obtain ⟨hgood, hlay, -⟩ := HR2.out (by first | rfl | trivial)
      have HGE := Lib.hid (fun w' (hw : Grow w w') => geoG _ _ w' hgood hlay hr (GV.up _ _ _ _ HGV.out hw))
      cases hgood with
      | plain hk hl1 hm hd =>
        have ek : (k != 7) = true := by simpa using hk
        clear hk hl1 hm hd
        go_wp2
        go_ret
        exact ⟨rfl, HG2.out⟩
      | coll g0 g1 g2 =>
        have hr3 : kids.length ≤ 1172812402961 ∧ ∀ g ∈ kids, Reach44 g := by cases hr with | mk r0 r1 r2 r3 r4 r5 r6 r7 rk r8 => exact ⟨r3, r8⟩
        have HR3 := Lib.hid hr3
        have hkk : Hid (kids = [] ∨ ∃ b o, A4 = some ⟨b, o, none⟩ ∧ GK kids b o w) := by
          have hv := HGV.out
          unfold GV at hv
          obtain ⟨u, e1, e2, A, c, he, -, -, -, -, hk⟩ := hv
          simp only [Value.agg.injEq, Array.mk.injEq, List.cons.injEq, Value.int.injEq, Value.slice.injEq, true_and, and_true] at he
          obtain ⟨-, -, -, rfl, rfl⟩ := he
          exact hk
        clear g0 g1 g2 hr hlay hr3
        by_cases hl0 : l = 0
        case neg =>
          have e0 : (l != 0) = true := by simpa using hl0
          clear hl0
          go_wp2
          go_ret
          exact ⟨rfl, HG2.out⟩
        subst hl0
        by_cases hy1 : ly < 1
        case pos =>
          go_wp2
          all_goals (go_ret; exact ⟨rfl, HG2.out⟩)
        by_cases hy9 : 9 < ly
        case pos =>
          go_wp2
          all_goals (go_ret; exact ⟨rfl, HG2.out⟩)
        have HCK := Lib.hid (fun w' (hw : Grow w w') => chk_calls ly (by omega) 0 r A1 _ c1 A2 _ c2 A3 _ c3 A4 _ c4 kids w' (fun w2 hw2 => HGE.out w2 (hw.trans hw2)))
        have HKO := Lib.hid (fun w' (hw : Grow w w') => kidsOf_calls 0 r ly A1 0 c1 A2 0 c2 A3 0 c3 A4 c4 kids w' (hkk.out.imp id fun ⟨b, o, h1, h2⟩ => ⟨b, o, h1, gkUp h2 hw⟩) HR3.out.2 HR3.out.1)
        go_wp2_with fail
        refine (HCK.out _ HG2.out).mono ?_
        rintro e w3 ⟨rfl, hg3⟩
        have HG3 := Lib.hid (HG2.out.trans hg3)
        have H73 := Lib.hid (Seven.up _ _ H72.out hg3)
        clear hg3 q0 q1 q2 q3 q4 q5 q6
        obtain ⟨q0, q1, q2, q3, q4, q5, q6⟩ := H73.out
        simp only [Nat.zero_add] at q1 q2 q3 q4 q5 q6
        go_wp2_with (go_at_call 15; refine (HKO.out _ HG3.out).mono ?_; rintro e w4 ⟨rfl, hg4⟩; have HG4 := Lib.hid (HG3.out.trans hg4); clear hg4)
        go_ret
        exact ⟨rfl, HG4.out⟩
end Go.Proofs.Ytdlhlgjgjkmdaaa
