import Derived.Test.YtegknlnkkoeahaaSpecE
import Derived.Test.YtegknlnkkoeahaaExtI
import Derived.Test.YtegknlnkkoeahaaSameB
import Derived.Test.YtegknlnkkoeahaaEachN
import Derived.Test.YtegknlnkkoeahaaGood2
import Derived.Test.YtegknlnkkoeahaaAppStep
import Derived.Deep.Cut
import Derived.Deep.CutRange
namespace Go.Proofs.Ytegknlnkkoeahaa
open Go.ChangeShapes Go.WideShapes Go.ChangeAt Go.RowKit Go.GrowR
set_option linter.unusedVariables false
set_option linter.unusedSimpArgs false
theorem fits1_calls (n : Int) (A B : Option Addr) (l c m d : Nat) (w : World) : Calls Try.prog 17 #[BxV n (.slice A l c) (.slice B m d)] w fun e w' => ∃ r, e = .returned (.bool r) ∧ Grow w w' ∧ (r = true → l ≤ 2147483647 ∧ m ≤ 2147483647) := by
  by_cases h1 : 2147483647 < l
  · go_enter Try.func17, Try.ntmps17
    go_wp2
    go_ret
    exact ⟨_, rfl, (Grow.refl w).alloc _, by intro h; cases h⟩
  by_cases h2 : 2147483647 < m
  · go_enter Try.func17, Try.ntmps17
    go_wp2
    go_ret
    exact ⟨_, rfl, (Grow.refl w).alloc _, by intro h; cases h⟩
  go_enter Try.func17, Try.ntmps17
  go_wp2
  go_ret
  exact ⟨_, rfl, (Grow.refl w).alloc _, fun _ => ⟨by omega, by omega⟩⟩

theorem allNum_of {xs : List Nat} (h : ∀ (k x : Nat), xs[k]? = some x → numB x = true) : AllNum xs := fun k x hx => by rw [← Fl.isNum_order]; exact h k x hx
theorem XL_len {zs ws : List Nat} {s : Nat} (h : Fl.XL zs ws) (hs : ws.length = s) : zs.length = s := h.1.trans hs
def CutE (s : Nat) (xs ys fl : List Nat) (w : World) (s6 s7 : Value) (wx : World) : Prop := ∃ b u v zs us n, s6 = .pointer (some ⟨b, 0, none⟩) ∧ s7 = .bool true ∧ wx.cell? ⟨b, 0, none⟩ = some (.int .i64 n) ∧ wx.cell? ⟨b, 1, none⟩ = some u ∧ wx.cell? ⟨b, 2, none⟩ = some v ∧ FSl u zs wx ∧ FSl v us wx ∧ Fl.XL zs (mnL xs fl s fl.length) ∧ Fl.XL us (mxL ys fl s fl.length) ∧ Grow w wx
theorem cutE_alloc {s : Nat} {xs ys fl zs us : List Nat} {w4 w6 : World} {B : Nat} {n : Int} {U V : Value} (t : TypeId) (hU : VOwn 42 B U (zs.map (.float .f64)) w6) (hV : VOwn 42 B V (us.map (.float .f64)) w6) (hz : Fl.XL zs (mnL xs fl s fl.length)) (hu : Fl.XL us (mxL ys fl s fl.length)) (hg : Grow w4 w6) :
    CutE s xs ys fl w4 (.pointer (some ⟨w6.heap.size, 0, none⟩)) (.bool true) (w6.alloc (.cells #[.int .i64 n, U, V] t)) := by
  have g : Grow w6 (w6.alloc (.cells #[.int .i64 n, U, V] t)) := (Grow.refl w6).alloc _
  exact ⟨_, U, V, zs, us, n, rfl, rfl, by go_simp, by go_simp, by go_simp, (VOwn.up _ _ hU g).sl.f, (VOwn.up _ _ hV g).sl.f, hz, hu, hg.alloc _⟩
theorem cutE_set {s : Nat} {xs ys fl zs us : List Nat} {w4 w6 : World} {B : Nat} {n : Int} {U V : Value} (t : TypeId) (hg : Grow (w4.alloc (.cells #[.int .i64 0, .slice none 0 0, .slice none 0 0] t)) w6) (hU : VOwn 42 B U (zs.map (.float .f64)) w6) (hB : w4.heap.size < B) (hV : VOwn 42 B V (us.map (.float .f64)) w6) (hz : Fl.XL zs (mnL xs fl s fl.length)) (hu : Fl.XL us (mxL ys fl s fl.length)) :
    CutE s xs ys fl w4 (.pointer (some ⟨w4.heap.size, 0, none⟩)) (.bool true) (((w6.setCell ⟨w4.heap.size, 0, none⟩ (.int .i64 n)).setCell ⟨w4.heap.size, 1, none⟩ U).setCell ⟨w4.heap.size, 2, none⟩ V) := by
  have h0 := up_cell (a := ⟨w4.heap.size, 0, none⟩) (v := .int .i64 0) (by go_simp) hg
  have h1 := up_cell (a := ⟨w4.heap.size, 1, none⟩) (v := .slice none 0 0) (by go_simp) hg
  have h2 := up_cell (a := ⟨w4.heap.size, 2, none⟩) (v := .slice none 0 0) (by go_simp) hg
  have hg' := ((Grow.refl w4).alloc _).trans hg
  exact ⟨_, U, V, zs, us, n, rfl, rfl, by go_simp, by go_simp, by go_simp, (((hU.setCell hB _).setCell hB _).setCell hB _).sl.f, (((hV.setCell hB _).setCell hB _).setCell hB _).sl.f, hz, hu, (((hg'.setCell (Nat.le_refl _) _).setCell (Nat.le_refl _) _).setCell (Nat.le_refl _) _)⟩
theorem growTo {w0 w1 w2 : World} (h : Grow w1 w2) (h0 : Grow w0 w1) : Grow w0 w2 := h0.trans h
theorem BoxAt.up3 {b : Nat} {x y z : Value} {w w' : World} (h0 : w.cell? ⟨b, 0, none⟩ = some x) (h1 : w.cell? ⟨b, 1, none⟩ = some y) (h2 : w.cell? ⟨b, 2, none⟩ = some z) (hg : Grow w w') : w'.cell? ⟨b, 0, none⟩ = some x ∧ w'.cell? ⟨b, 1, none⟩ = some y ∧ w'.cell? ⟨b, 2, none⟩ = some z := ⟨up_cell h0 hg, up_cell h1 hg, up_cell h2 hg⟩
set_option maxRecDepth 100000 in
set_option maxHeartbeats 8000000 in
theorem law_calls (n : Int) (u v uf : Value) (xs ys fl : List Nat) (w : World) (hu : FSl u xs w) (hv : FSl v ys w) (hf : FSl uf fl w) :
    Calls Try.prog 5 #[BxV n u v, uf] w fun e w' => e = .returned (.bool true) ∧ Grow w w' := by
  have HU := Lib.hid hu; have HV := Lib.hid hv; have HF := Lib.hid hf
  obtain ⟨A, ca, rfl, -, -⟩ := hu
  obtain ⟨B, cb, rfl, -, -⟩ := hv
  obtain ⟨C, cf, rfl, hcf, -⟩ := hf
  go_enter Try.func5, Try.ntmps5
  go_wp2_with fail
  refine (fits1_calls _ _ _ _ _ _ _ _).mono ?_
  rintro e w1 ⟨r, rfl, hg, hr⟩
  have c0 := up_cell (a := ⟨w.heap.size, 0, none⟩) (v := .int .i64 n) (by go_simp) hg
  have c1 := up_cell (a := ⟨w.heap.size, 1, none⟩) (v := .slice A xs.length ca) (by go_simp) hg
  have c2 := up_cell (a := ⟨w.heap.size, 2, none⟩) (v := .slice B ys.length cb) (by go_simp) hg
  have HG1 := Lib.hid (((Grow.refl w).alloc _).trans hg); clear hg
  by_cases hfl : fl.length ≤ 2147483647
  case neg =>
    have hfl' : decide ((2147483647 : Int) < (fl.length : Int)) = true := by simp; omega
    cases r <;> (clear hr; go_wp2; go_ret; exact ⟨rfl, HG1.out⟩)
  cases r with
  | false =>
    go_wp2
    go_ret
    exact ⟨rfl, HG1.out⟩
  | true =>
    obtain ⟨l1, l2⟩ := hr rfl
    have L1 := Lib.hid l1; have L2 := Lib.hid l2; clear l1 l2 hr
    have z1 : w.heap.size < w1.heap.size := cell_ltH c0
    have hfl' : decide ((2147483647 : Int) < (fl.length : Int)) = false := by simp; omega
    go_wp2_with fail
    refine (bBox_calls _ _ n _ _ xs ys _ (by go_simp) (by go_simp) (by go_simp) (FSl.up _ _ HU.out ((HG1.out.alloc _).alloc _)) (FSl.up _ _ HV.out ((HG1.out.alloc _).alloc _)) (by have := L1.out; omega) (by have := L2.out; omega)).mono ?_
    rintro e w2 ⟨r, rfl, hg2, hr⟩
    have hgt := (((Grow.refl w1).alloc _).alloc _).trans hg2
    obtain ⟨d0, d1, d2⟩ := BoxAt.up3 c0 c1 c2 hgt
    have g0 := up_cell (a := ⟨w1.heap.size, 0, none⟩) (v := .int .i64 2) (by go_simp) hg2
    have g1 := up_cell (a := ⟨w1.heap.size, 1, none⟩) (v := .int .i64 n) (by go_simp) hg2
    have g2 := up_cell (a := ⟨w1.heap.size, 2, none⟩) (v := .int .i64 0) (by go_simp) hg2
    have g3 := up_cell (a := ⟨w1.heap.size, 3, none⟩) (v := .slice C fl.length cf) (by go_simp) hg2
    have g4 := up_cell (a := ⟨w1.heap.size, 4, none⟩) (v := nilS) (by go_simp) hg2
    have g5 := up_cell (a := ⟨w1.heap.size, 5, none⟩) (v := nilS) (by go_simp) hg2
    have g6 := up_cell (a := ⟨w1.heap.size, 6, none⟩) (v := nilS) (by go_simp) hg2
    have HG2 := Lib.hid (HG1.out.trans hgt)
    clear hg2 hgt c0 c1 c2 hfl' z1
    cases r with
    | false =>
      go_wp2
      go_ret
      exact ⟨rfl, HG2.out⟩
    | true =>
      obtain ⟨n0, n9, hlx, hly, nx, ny⟩ := hr rfl
      have NX := Lib.hid (allNum_of nx); have NY := Lib.hid (allNum_of ny)
      have HLY := Lib.hid hly
      clear hr nx ny hly n0
      by_cases h1 : n < 1
      case pos =>
        clear n9 hlx
        go_wp2
        go_ret
        exact ⟨rfl, HG2.out⟩
      have h1' : 1 ≤ n := by omega
      obtain ⟨s, hs, s2, s9⟩ := stride_nat n h1' n9
      rw [hs] at hlx
      have HLX : Hid (xs.length = s) := by show _ = _; omega
      have HS := Lib.hid hs
      have HP := Lib.hid (fun w => gPlain2 n 0 s C fl.length cf w h1' n9 hs s2 s9 hfl)
      have HN9 := Lib.hid n9
      clear hlx hs n9
      cases hb : (decide (1 + fl.length ≤ 2000) && ((fl.length : Int) % (s : Int) == 0)) with
      | false =>
        have HB := Lib.hid hb; clear hb
        go_wp2_with fail
        refine (HP.out _).mono ?_
        rw [HB.out]
        rintro e w3 ⟨rfl, hg3⟩
        have HG3 := Lib.hid (HG2.out.trans hg3); clear hg3
        go_wp2
        go_ret
        exact ⟨rfl, HG3.out⟩
      | true =>
        have HB := Lib.hid hb; clear hb
        have HE := Lib.hid (fun w' (hg : Grow w w') => eachNumber_calls 2 n 0 _ fl w' (FSl.up _ _ HF.out hg) (by omega))
        have hrem : (fl.length : Int) % (s : Int) = 0 := by have := HB.out; simp at this; omega
        have hdiv : fl.length = fl.length / s * s := by
          have h' : fl.length % s = 0 := by omega
          have := Nat.div_add_mod fl.length s
          rw [h'] at this; rw [Nat.mul_comm]; omega
        have HD := Lib.hid hdiv; clear hdiv hrem
        cases hall : fl.all numB with
        | false =>
          have HALL := Lib.hid hall; clear hall
          go_wp2_with (first
            | (go_at_call 19; refine (HP.out _).mono ?_; rw [HB.out]; rintro e w3 ⟨rfl, hg3⟩; have e0 := up_cell g0 hg3; have e1 := up_cell g1 hg3; have e2 := up_cell g2 hg3; have e3 := up_cell g3 hg3; have e4 := up_cell g4 hg3; have e5 := up_cell g5 hg3; have e6 := up_cell g6 hg3; have HG3 := Lib.hid (HG2.out.trans hg3); clear hg3)
            | (go_at_call 13; refine (HE.out _ HG3.out).mono ?_; rw [HALL.out]; rintro e w4 ⟨rfl, hg4⟩; have HG4 := Lib.hid (HG3.out.trans hg4); clear hg4))
          go_ret
          exact ⟨rfl, HG4.out⟩
        | true =>
          have NF := Lib.hid (show AllNum fl from fun k x hx => by rw [← Fl.isNum_order]; exact List.all_eq_true.1 hall x (List.mem_of_getElem? hx))
          have HALL := Lib.hid hall; clear hall
          go_wp2_with (first
            | (go_at_call 19; refine (HP.out _).mono ?_; rw [HB.out]; rintro e w3 ⟨rfl, hg3⟩; have e0 := up_cell g0 hg3; have e1 := up_cell g1 hg3; have e2 := up_cell g2 hg3; have e3 := up_cell g3 hg3; have e4 := up_cell g4 hg3; have e5 := up_cell g5 hg3; have e6 := up_cell g6 hg3; obtain ⟨f0, f1, f2⟩ := BoxAt.up3 d0 d1 d2 hg3; have HG3 := Lib.hid (HG2.out.trans hg3); clear hg3)
            | (go_at_call 13; refine (HE.out _ HG3.out).mono ?_; rw [HALL.out]; rintro e w4 ⟨rfl, hg4⟩; have i0 := up_cell e0 hg4; have i1 := up_cell e1 hg4; have i2 := up_cell e2 hg4; have i3 := up_cell e3 hg4; have i4 := up_cell e4 hg4; have i5 := up_cell e5 hg4; have i6 := up_cell e6 hg4; obtain ⟨j0, j1, j2⟩ := BoxAt.up3 f0 f1 f2 hg4; have HG4 := Lib.hid (HG3.out.trans hg4); clear hg4))
          clear d0 d1 d2 f0 f1 f2 e0 e1 e2 e3 e4 e5 e6 g0 g1 g2 g3 g4 g5 g6
          have KI := Lib.hid (fun w' (hg : Grow w w') => implExt_calls n s (fl.length / s) _ _ _ xs ys fl w' (FSl.up _ _ HU.out hg) (FSl.up _ _ HV.out hg) (FSl.up _ _ HF.out hg) h1' HN9.out HS.out s2 HLX.out (by rw [← HLY.out]; exact HLX.out) NX.out NY.out NF.out HD.out hfl s9)
          have KS := Lib.hid (fun w => strideS n s w HS.out)
          have lw0 : w.heap.size < w4.heap.size := cell_ltH j0
          have lw1 : w1.heap.size < w4.heap.size := cell_ltH i0
          go_cut [6, 7] from 40 to 49 (fun s6 s7 wx => CutE s xs ys fl w4 s6 s7 wx)
          case first =>
            go_region_law (first
              | (go_simp; go_at_call 22; refine (KS.out _).mono ?_; rintro e w5 ⟨rfl, rfl⟩)
              | (go_simp; go_at_call 21; refine (KI.out _ (HG4.out.trans (by repeat (first | exact Grow.refl _ | refine Grow.drew ?_ | refine Grow.alloc ?_ _)))).mono ?_; rintro e w6 ⟨U, V, zs, us, rfl, hz, hu', hU, hV, hg6⟩; have HZ := Lib.hid hz; have HU' := Lib.hid hu'; have HUU := Lib.hid hU; have HVV := Lib.hid hV; have HG6 := Lib.hid (@growTo w4 _ _ hg6 ((by repeat (first | exact Grow.refl _ | refine Grow.drew ?_ | refine Grow.alloc ?_ _)))); have hcG := grow_cell hg6; have hfG := grow_frozen hg6; have hsG := hg6.size; obtain ⟨A5, m5, k5, rfl⟩ := hU.isSl; obtain ⟨A6, m6, k6, rfl⟩ := hV.isSl; clear hz hu' hU hV))
            all_goals
              go_wp2_with fail
              go_meet
              first
                | exact cutE_alloc _ HUU.out HVV.out HZ.out HU'.out HG6.out
                | exact cutE_set 46 (growTo hg6 (by repeat (first | exact Grow.refl _ | refine Grow.drew ?_))) HUU.out (by simp) HVV.out HZ.out HU'.out
          case rest =>
            obtain ⟨bp, u5, v5, zs, us, n5, rfl, rfl, p0, p1, p2, hU, hV, hz, hus, hg5⟩ := hcut
            obtain ⟨A5, k5, rfl, hk5, hA5⟩ := hU
            obtain ⟨A6, k6, rfl, hk6, hA6⟩ := hV
            have HZ := Lib.hid hz; have HUS := Lib.hid hus
            have HU5 := Lib.hid (show FSl (.slice A5 zs.length k5) zs wc from ⟨_, _, rfl, hk5, hA5⟩)
            have HV5 := Lib.hid (show FSl (.slice A6 us.length k6) us wc from ⟨_, _, rfl, hk6, hA6⟩)
            have HG5 := Lib.hid (HG4.out.trans hg5)
            obtain ⟨r0, r1, r2⟩ := BoxAt.up3 j0 j1 j2 hg5
            have i0' := up_cell i0 hg5; have i1' := up_cell i1 hg5; have i2' := up_cell i2 hg5; have i3' := up_cell i3 hg5; have i4' := up_cell i4 hg5; have i5' := up_cell i5 hg5; have i6' := up_cell i6 hg5
            clear hz hus hA5 hA6 hk5 hk6 hg5 j0 j1 j2 i0 i1 i2 i3 i4 i5 i6
            have hl1 : zs.length = s := XL_len HZ.out (by rw [Fl.extL_len]; exact HLX.out)
            have hl2 : us.length = s := XL_len HUS.out (by rw [Fl.extL_len, ← HLY.out]; exact HLX.out)
            have HL1 := Lib.hid hl1; have HL2 := Lib.hid hl2
            have KE := Lib.hid (specExt_calls n 2 0 s _ _ _ nilS nilS xs ys fl wc (FSl.up _ _ HU.out HG5.out) (FSl.up _ _ HV.out HG5.out) (FSl.up _ _ HF.out HG5.out) HS.out s2 HLX.out (by rw [← HLY.out]; exact HLX.out) NX.out NY.out NF.out hfl s9 ⟨_, _, _, rfl⟩ ⟨_, _, _, rfl⟩)
            clear hl1 hl2 KI KS HP HE
            go_wp2_with fail
            refine KE.out.mono ?_
            rintro e w7 ⟨u7, v7, rfl, hu7, hv7, hg7⟩
            have HU7 := Lib.hid (FSl.up _ _ hu7 ((Grow.refl w7).alloc (Obj.cells #[.int .i64 n, u7, v7] 46))); have HV7 := Lib.hid (FSl.up _ _ hv7 ((Grow.refl w7).alloc (Obj.cells #[.int .i64 n, u7, v7] 46)))
            obtain ⟨A7, k7, rfl, -, -⟩ := hu7
            obtain ⟨A8, k8, rfl, -, -⟩ := hv7
            have s0 := up_cell p0 hg7; have s1 := up_cell p1 hg7; have s2' := up_cell p2 hg7
            have hg78 := hg7.trans ((Grow.refl w7).alloc (Obj.cells #[.int .i64 n, .slice A7 (mnL xs fl s fl.length).length k7, .slice A8 (mxL ys fl s fl.length).length k8] 46))
            have HU6 := Lib.hid (FSl.up _ _ HU5.out hg78); have HV6 := Lib.hid (FSl.up _ _ HV5.out hg78)
            have HG7 := Lib.hid (HG5.out.trans hg78)
            have lt := cell_ltH s0
            clear p0 p1 p2 hg7 hg78 r0 r1 r2 i0' i1' i2' i3' i4' i5' i6'
            go_wp2_with fail
            refine (sameBox_calls n s _ _ _ _ zs us (mnL xs fl s fl.length) (mxL ys fl s fl.length) _ HU6.out HV6.out HU7.out HV7.out HL1.out HL2.out (by rw [Fl.extL_len]; exact HLX.out) (by rw [Fl.extL_len, ← HLY.out]; exact HLX.out) (by omega) s9 HZ.out HUS.out).mono ?_
            rintro e w8 ⟨rfl, hg8⟩
            have HG8 := Lib.hid (HG7.out.trans hg8); clear hg8
            go_wp2
            go_ret
            exact ⟨rfl, HG8.out⟩
end Go.Proofs.Ytegknlnkkoeahaa
