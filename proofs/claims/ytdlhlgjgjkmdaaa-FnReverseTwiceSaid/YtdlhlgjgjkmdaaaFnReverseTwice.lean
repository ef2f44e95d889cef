import Derived.Test.YtdlhlgjgjkmdaaaRevImpl
import Derived.Test.YtdlhlgjgjkmdaaaPlainL
import Derived.Test.YtdlhlgjgjkmdaaaSameT
namespace Go.Proofs.Ytdlhlgjgjkmdaaa
open Go.ChangeShapes Go.WideShapes Go.ChangeAt Go.RowKit Go.GrowR
set_option linter.unusedVariables false
set_option linter.unusedSimpArgs false

def LawQ (w : World) (e : Ending) (w' : World) : Prop := e = .returned (.bool true) ∧ Grow w w'
theorem Rv.reach {s : Nat} {k l r : Int} {fl fl' : List Nat} {en : List Int} {ens : List (List Int)} (h : Rv s k fl fl' en ens) (hr : Reach44 (.mk k l r fl en ens [])) : Reach44 (.mk k l r fl' en ens []) := by
  cases hr with
  | mk r0 r1 r2 r3 r4 r5 r6 r7 rk r8 => exact .mk (by rw [h.len]; exact r0) r1 r2 r3 (fun x hx => r4 x (h.mem x hx)) r5 r6 r7 rk r8
theorem reverseAll {k l r : Int} {s : Nat} {fl fl' : List Nat} {en : List Int} {ens : List (List Int)} {v : Value} {w : World} (hv : GV (.mk k l r fl en ens []) v w) (hs0 : 0 < s) (hs9 : s ≤ 9) (hls : strideN l = s) (h1 : 1 ≤ l) (h9 : l ≤ 9) (hd : KindOk k s fl.length en ens) (hrv : Rv s k fl fl' en ens) (h44 : Reach44 (.mk k l r fl en ens [])) :
    Calls Try.prog 29 #[v] w (NewR (.mk k l r fl' en ens []) w) := by
  obtain ⟨k0, l0, r0, fl0, en0, ens0, kids0, A1, c1, A2, c2, A3, c3, A4, c4, he, rfl, hf, hen, hens⟩ := hv.seven
  cases he
  have hge : ∀ w', Grow w w' → Calls Try.prog 45 #[Geo7 k l r A1 fl.length c1 A2 en.length c2 A3 ens.length c3 A4 0 c4] w' (GP k l r fl en ens w') := fun w' hw => geoPlainB (FSl.up _ _ hf hw) (ISl.up _ _ hen hw) (ISSl.up _ _ hens hw) h44 h1 h9 (by rw [hls]; exact hd)
  have hk : k = 2 ∨ k = 8 ∨ k = 3 ∨ k = 4 ∨ k = 5 ∨ k = 6 := by
    cases hrv with
    | line hk hr => omega
    | lines hk hr => omega
    | areas hr => omega
  rcases hk with rfl | rfl | rfl | rfl | rfl | rfl
  · exact reverse2 l r s fl fl' en ens _ _ _ _ _ _ _ _ _ _ _ _ w hs0 hs9 hls hrv h44 hge
  · exact reverse8 l r s fl fl' en ens _ _ _ _ _ _ _ _ _ _ _ _ w hs0 hs9 hls hrv h44 hge
  · exact reverse3 l r s fl fl' en ens _ _ _ _ _ _ _ _ _ _ _ _ w hs0 hs9 hls hrv h44 hge
  · exact reverse4 l r s fl fl' en ens _ _ _ _ _ _ _ _ _ _ _ _ w hs0 hs9 hls hrv h44 hge
  · exact reverse5 l r s fl fl' en ens _ _ _ _ _ _ _ _ _ _ _ _ w hs0 hs9 hls hrv h44 hge
  · exact reverse6 l r s fl fl' en ens _ _ _ _ _ _ _ _ _ _ _ _ w hs0 hs9 hls hrv h44 hge
set_option maxRecDepth 100000 in
set_option maxHeartbeats 16000000 in
theorem law_calls (g : GT) (gv : Value) (w : World) (hg : GV g gv w) (hr : Reach44 g) : Calls Try.prog 8 #[gv] w (LawQ w) := by
  have HGV := Lib.hid hg
  obtain ⟨k, l, r, fl, en, ens, kids, A1, c1, A2, c2, A3, c3, A4, c4, rfl, rfl, hfl, hen, hens⟩ := hg.seven
  have HFT := Lib.hid (fun w' (hw : Grow w w') => fits2_calls _ _ w' hr (GV.up _ _ _ _ HGV.out hw))
  have HRR := Lib.hid hr
  have HGT := Lib.hid (fun w' (hw : Grow w w') => gTurns_calls k l r fl en ens kids _ w' hr (GV.up _ _ _ _ HGV.out hw))
  clear hg hfl hen hens
  go_enter Try.func8, Try.ntmps8
  go_wp2_with fail
  refine (HFT.out _ ((Grow.refl w).alloc _)).mono ?_
  rintro e w1 ⟨r1, rfl, hg1, hr1⟩
  have H71 : Hid (Seven w.heap.size 0 k l r A1 fl.length c1 A2 en.length c2 A3 ens.length c3 A4 kids.length c4 w1) := ⟨up_cell (by go_simp) hg1, up_cell (by go_simp) hg1, up_cell (by go_simp) hg1, up_cell (by go_simp) hg1, up_cell (by go_simp) hg1, up_cell (by go_simp) hg1, up_cell (by go_simp) hg1⟩
  have HG1 := Lib.hid (((Grow.refl w).alloc _).trans hg1)
  have HR1 := Lib.hid hr1
  clear hg1 hr1
  cases r1 with
  | false =>
    go_wp2
    go_ret
    exact ⟨rfl, HG1.out⟩
  | true =>
    have H31 := Lib.hid (HR1.out (by first | rfl | trivial))
    obtain ⟨q0, q1, q2, q3, q4, q5, q6⟩ := H71.out
    simp only [Nat.zero_add] at q1 q2 q3 q4 q5 q6
    have lt1 : w.heap.size < w1.heap.size := cell_ltH q0
    go_wp2_with fail
    refine (HGT.out _ HG1.out).mono ?_
    rintro e w2 ⟨r2, rfl, hg2, hr2⟩
    have HG2 := Lib.hid (HG1.out.trans hg2)
    have H72 := Lib.hid (Seven.up _ _ H71.out hg2)
    have HR2 := Lib.hid hr2
    clear hg2 hr2
    clear q0 q1 q2 q3 q4 q5 q6
    obtain ⟨q0, q1, q2, q3, q4, q5, q6⟩ := H72.out
    simp only [Nat.zero_add] at q1 q2 q3 q4 q5 q6
    have lt2 : w.heap.size < w2.heap.size := cell_ltH q0
    cases r2 with
    | false =>
      clear q0 q1 q2 q3 q4 q5 q6
      go_wp2
      go_ret
      exact ⟨rfl, HG2.out⟩
    | true =>
      obtain ⟨hgood, h7, hk1⟩ := HR2.out (by first | rfl | trivial)
      obtain ⟨s, hpg⟩ := plainG hgood H31.out h7
      obtain ⟨fl', hrv⟩ := Rv.ex (by have := hpg.s2; omega) hpg.dk hk1 (by have := hpg.md; omega)
      have hk0 := hpg.kids0
      subst hk0
      have HRV := Lib.hid hrv; have HPG := Lib.hid hpg
      have HC1 := Lib.hid (fun w' (hw : Grow w w') => reverseAll (GV.up _ _ _ _ HGV.out hw) (by have := hpg.s2; omega) hpg.s9 hpg.st hpg.l1 hpg.l9 hpg.dk hrv HRR.out)
      have HC2 := Lib.hid (fun v w' (hv : GV (.mk k l r fl' en ens []) v w') => reverseAll hv (by have := hpg.s2; omega) hpg.s9 hpg.st hpg.l1 hpg.l9 (by rw [hrv.len]; exact hpg.dk) hrv.symm (hrv.reach HRR.out))
      clear hgood h7 hk1 hpg hrv
      go_wp2_with fail
      refine (HC1.out _ HG2.out).mono ?_
      rintro e w3 ⟨v3, rfl, hg3, hv3⟩
      obtain ⟨k3, l3, r3, A13, n13, c13, A23, n23, c23, A33, n33, c33, A43, n43, c43, rfl⟩ := hv3.form
      have HV3 := Lib.hid hv3
      have HG3 := Lib.hid (HG2.out.trans hg3)
      have H73 := Lib.hid (Seven.up _ _ H72.out hg3)
      clear hg3 hv3
      clear q0 q1 q2 q3 q4 q5 q6
      obtain ⟨q0, q1, q2, q3, q4, q5, q6⟩ := H73.out
      simp only [Nat.zero_add] at q1 q2 q3 q4 q5 q6
      have lt3 : w.heap.size < w3.heap.size := cell_ltH q0
      go_wp2_with fail
      refine (HC2.out _ _ (GV.up _ _ _ _ HV3.out ((Grow.refl w3).alloc _))).mono ?_
      rintro e w4 ⟨v4, rfl, hg4, hv4⟩
      obtain ⟨k4, l4, r4, A14, n14, c14, A24, n24, c24, A34, n34, c34, A44, n44, c44, rfl⟩ := hv4.form
      have HV4 := Lib.hid hv4
      have hg34 := ((Grow.refl w3).alloc _).trans hg4
      have HG4 := Lib.hid (HG3.out.trans hg34)
      have H74 := Lib.hid (Seven.up _ _ H73.out hg34)
      clear hg4 hv4 hg34
      clear q0 q1 q2 q3 q4 q5 q6
      obtain ⟨q0, q1, q2, q3, q4, q5, q6⟩ := H74.out
      simp only [Nat.zero_add] at q1 q2 q3 q4 q5 q6
      have lt4 : w.heap.size < w4.heap.size := cell_ltH q0
      go_wp2_with (go_at_call 24; refine (sameGeom_calls _ _ _ _ HRR.out (GV.up _ _ _ _ HV4.out ((Grow.refl w4).alloc _)) (GV.up _ _ _ _ HGV.out (HG4.out.trans ((Grow.refl w4).alloc _)))).mono ?_; rintro e w5 ⟨rfl, hg5⟩; have HG5 := Lib.hid (HG4.out.trans (((Grow.refl w4).alloc _).trans hg5)); clear hg5)
      go_ret
      exact ⟨rfl, HG5.out⟩
end Go.Proofs.Ytdlhlgjgjkmdaaa
