import Derived.Test.YtlkoaanagbgpkaaBBox
namespace Go.Proofs.Ytlkoaanagbgpkaa
open Go.ChangeShapes Go.WideShapes Go.ChangeAt Go.RowKit Go.GrowR
set_option linter.unusedVariables false
set_option linter.unusedSimpArgs false
theorem fits1_calls (n : Int) (A B : Option Addr) (l c m d : Nat) (w : World) : Calls Try.prog 17 #[BxV n (.slice A l c) (.slice B m d)] w fun e w' => ∃ r, e = .returned (.bool r) ∧ Grow w w' ∧ (r = true → l ≤ 2147483647 ∧ m ≤ 2147483647) := by
  by_cases h1 : 2147483647 < l
  · go_enter Try.func17, Try.ntmps17
    go_wp2
    go_ret
    exact ⟨_, rfl, (Grow.refl w).alloc _, by intro h; cases h⟩
  by_cases h2 : 2147483647 < m
  · go_enter Try.func17, Try.ntmps17
    go_wp2
    go_ret
    exact ⟨_, rfl, (Grow.refl w).alloc _, by intro h; cases h⟩
  go_enter Try.func17, Try.ntmps17
  go_wp2
  go_ret
  exact ⟨_, rfl, (Grow.refl w).alloc _, fun _ => ⟨by omega, by omega⟩⟩
set_option maxHeartbeats 4000000 in
theorem law_calls (n : Int) (u v : Value) (xs ys : List Nat) (d : Int) (w : World) (hu : FSl u xs w) (hv : FSl v ys w) :
    Calls Try.prog 5 #[BxV n u v, .int .i64 d] w fun e w' => e = .returned (.bool true) ∧ Grow w w' := by
  have HU := Lib.hid hu
  have HV := Lib.hid hv
  obtain ⟨A, ca, rfl, -, -⟩ := hu
  obtain ⟨B, cb, rfl, -, -⟩ := hv
  go_enter Try.func5, Try.ntmps5
  go_wp2_with fail
  refine (fits1_calls _ _ _ _ _ _ _ _).mono ?_
  rintro e w1 ⟨r, rfl, hg, hr⟩
  have hcell := grow_cell hg
  have c0 := up_cell (a := ⟨w.heap.size, 0, none⟩) (v := .int .i64 n) (by go_simp) hg
  have c1 := up_cell (a := ⟨w.heap.size, 1, none⟩) (v := .slice A xs.length ca) (by go_simp) hg
  have c2 := up_cell (a := ⟨w.heap.size, 2, none⟩) (v := .slice B ys.length cb) (by go_simp) hg
  have HG1 := Lib.hid (((Grow.refl w).alloc _).trans hg); clear hg hcell
  cases r with
  | false =>
    go_wp2
    go_ret
    exact ⟨rfl, HG1.out⟩
  | true =>
    obtain ⟨l1, l2⟩ := hr rfl
    have L1 := Lib.hid l1; have L2 := Lib.hid l2; clear l1 l2 hr
    go_wp2_with fail
    refine (bBox_calls _ _ n _ _ xs ys _ (by go_simp) (by go_simp) (by go_simp) (FSl.up _ _ HU.out (HG1.out.alloc _)) (FSl.up _ _ HV.out (HG1.out.alloc _)) (by have := L1.out; omega) (by have := L2.out; omega)).mono ?_
    rintro e w2 ⟨r, rfl, hg2, hr⟩
    have hgt := ((Grow.refl w1).alloc _).trans hg2
    have d0 := up_cell c0 hgt
    have d1 := up_cell c1 hgt
    have d2 := up_cell c2 hgt
    have HG2 := Lib.hid (HG1.out.trans hgt); clear hg2 hgt c0 c1 c2
    cases r with
    | false =>
      go_wp2
      go_ret
      exact ⟨rfl, HG2.out⟩
    | true =>
      have HGB := Lib.hid (hr rfl); clear hr
      by_cases h0 : d < 0
      case pos =>
        go_wp2
        go_ret
        exact ⟨rfl, HG2.out⟩
      case neg =>
        obtain ⟨k, rfl⟩ : ∃ k : Nat, d = k := ⟨d.toNat, by omega⟩
        have h0' : decide ((k : Int) < 0) = false := by simp
        clear h0
        by_cases h1 : k < xs.length
        case neg =>
          have h1' : xs.length ≤ k := by omega
          have h1'' : decide (xs.length ≤ k) = true := by simpa using h1'
          clear h1
          go_wp2
          go_ret
          exact ⟨rfl, HG2.out⟩
        case pos =>
          have h1'' : decide (xs.length ≤ k) = false := by simp; omega
          have hky : k < ys.length := by have := HGB.out.2.2.2.1; omega
          obtain ⟨x, hx⟩ : ∃ x, xs[k]? = some x := ⟨xs[k], by simp [h1]⟩
          obtain ⟨y, hy⟩ : ∃ y, ys[k]? = some y := ⟨ys[k], by simp [hky]⟩
          have nx : (FloatKind.f64.format.order x x == some .eq) = true := HGB.out.2.2.2.2.1 k x hx
          have ny : (FloatKind.f64.format.order y y == some .eq) = true := HGB.out.2.2.2.2.2 k y hy
          have K1 := Lib.hid (fun w' (hg : Grow w w') => boxMin_calls n _ _ xs ys k x w' (FSl.up _ _ HU.out hg) (FSl.up _ _ HV.out hg) (by have := L1.out; omega) (by have := L2.out; omega) hx)
          have K2 := Lib.hid (fun w' (hg : Grow w w') => boxMax_calls n _ _ xs ys k y w' (FSl.up _ _ HU.out hg) (FSl.up _ _ HV.out hg) (by have := L1.out; omega) (by have := L2.out; omega) hy)
          obtain ⟨A', ca', hA1, -, hA2⟩ := HU.out
          obtain ⟨B', cb', hB1, -, hB2⟩ := HV.out
          cases hA1; cases hB1
          rcases hA2 with q | ⟨b1, o1, rfl, q1⟩
          · exfalso; rw [q] at h1; simp at h1
          rcases hB2 with q | ⟨b2, o2, rfl, q2⟩
          · exfalso; rw [q] at hky; simp at hky
          have CX := Lib.hid (q1 k x hx)
          have CY := Lib.hid (q2 k y hy)
          clear q1 q2 hx hy
          go_wp2_with (first
            | (go_at_call 19; refine (K1.out _ HG2.out).mono ?_; rintro e w3 ⟨rfl, hg3⟩; have e0 := up_cell d0 hg3; have e1 := up_cell d1 hg3; have e2 := up_cell d2 hg3; have HG3 := Lib.hid (HG2.out.trans hg3); clear hg3 d0 d1 d2)
            | (go_at_call 20; refine (K2.out _ HG3.out).mono ?_; rintro e w4 ⟨rfl, hg4⟩; have f0 := up_cell e0 hg4; have f1 := up_cell e1 hg4; have f2 := up_cell e2 hg4; have HG4 := Lib.hid (HG3.out.trans hg4); clear hg4 e0 e1 e2;
               have g1 := up_cell CX.out HG4.out; have g2 := up_cell CY.out HG4.out))
          go_ret
          exact ⟨rfl, HG4.out⟩
end Go.Proofs.Ytlkoaanagbgpkaa
