import Derived.Test.YtmhpnogofebbbaaVDis
import Derived.BigRegion
namespace Go.Proofs.Ytmhpnogofebbbaa
open Go.ChangeShapes Go.WideShapes Go.ChangeAt Go.RowKit Go.GrowR
set_option linter.unusedVariables false
set_option linter.unusedSimpArgs false
theorem sum_I {xs ys : List Nat} {n : Nat} {A B : Nat → Int} (hA : Nums xs n A) (hB : Nums ys n B) (hn : n ≤ 6) : ∀ k, k ≤ n → Fl.IsI (sumX xs ys k) (sqS A B k)
  | 0, _ => zero_I
  | k + 1, hk => by
    obtain ⟨d, e, -, -, -, h⟩ := sum_step hA hB hn (k := k) (by omega) (sum_I hA hB hn k (by omega))
    exact h
theorem tiny_V : ∃ t, Fl.V 4472074429978902528 t ∧ 0 < t := by
  refine ⟨_, ⟨false, 4503599627370496, -82, by decide +kernel, rfl⟩, ?_⟩
  simp only [Fl.dv, Bool.false_eq_true, if_false]
  exact Rat.mul_pos (by decide) (Fl.p2_pos _)
/-- what is left of a number taken from itself is told to be nearer than tiny -/
theorem near_self {r : Nat} {q : Rat} (h : Fl.V r q) : ∃ z, floatBits .sub .f64 r r = some z ∧ (FloatKind.f64.format.order (Fl.absB z) 4472074429978902528 == some .lt) = true := by
  obtain ⟨z, hz, hr⟩ := Fl.sub_V h h
  have h0 : q - q = ((0 : Int) : Rat) := by grind
  rw [h0] at hr
  have hi := Fl.RN_int hr (by decide)
  obtain ⟨t, ht, hp⟩ := tiny_V
  refine ⟨z, hz, ?_⟩
  have ha := Fl.abs_I hi
  rw [Fl.lt_V ha ht]
  exact decide_eq_true (by simpa using hp)
set_option maxRecDepth 100000 in
set_option maxHeartbeats 4000000 in
theorem law_calls (u v : Value) (xs ys : List Nat) (w : World) (hu : FSl u xs w) (hv : FSl v ys w) :
    Calls Try.prog 3 #[u, v] w fun e w' => e = .returned (.bool true) ∧ Grow w w' := by
  have HU := Lib.hid hu
  have HV := Lib.hid hv
  obtain ⟨P, c, rfl, -, -⟩ := hu
  obtain ⟨Q, d, rfl, -, -⟩ := hv
  by_cases hx : xs.length ≤ 2147483647
  case neg =>
    go_enter Try.func3, Try.ntmps3
    go_wp2
    go_ret
    exact ⟨rfl, Grow.refl _⟩
  by_cases hy : ys.length ≤ 2147483647
  case neg =>
    go_enter Try.func3, Try.ntmps3
    go_wp2
    go_ret
    exact ⟨rfl, Grow.refl _⟩
  have HW := Lib.hid (fun b w' (hg : Grow w w') hb => wide_calls b _ _ xs ys w' hb (FSl.up _ _ HU.out hg) (FSl.up _ _ HV.out hg) hx hy)
  cases hw : wideB xs ys with
  | false =>
    have HB := Lib.hid hw; clear hw
    go_enter Try.func3, Try.ntmps3
    go_wp2_with (go_at_call 4; refine (HW.out w.heap.size _ ((Grow.refl _).alloc _) (by go_simp)).mono ?_; rw [HB.out]; rintro e w1 ⟨rfl, hg⟩; have HG := Lib.hid (((Grow.refl _).alloc _).trans hg); clear hg)
    go_ret
    exact ⟨rfl, HG.out⟩
  | true =>
    have HB := Lib.hid hw
    obtain ⟨n, A, B, n1, n6, hA, hB⟩ := wideB_true hw
    clear hw
    have hs := sum_I hA hB n6 n (Nat.le_refl _)
    have hb := sqS_bd hA hB n (Nat.le_refl _)
    obtain ⟨r, q, hr, hq, hz⟩ := Fl.sqrt_I hs hb.1 (by omega)
    obtain ⟨z, hs2, hlt⟩ := near_self hq
    have HID := Lib.hid (fun w' (hg : Grow w w') => implVD_calls _ _ xs ys n A B r w' (FSl.up _ _ HU.out hg) (FSl.up _ _ HV.out hg) hA hB n6 hr)
    have HSQ := Lib.hid (fun w' (hg : Grow w w') => squareN_calls _ _ xs ys n A B w' (FSl.up _ _ HU.out hg) (FSl.up _ _ HV.out hg) hA hB n6)
    have HRT := Lib.hid (fun w' => sqrt_calls hr w')
    have HSP := Lib.hid (fun w' (hg : Grow w w') => samePoint_calls _ _ xs ys n A B w' (FSl.up _ _ HU.out hg) (FSl.up _ _ HV.out hg) hA hB n6)
    have g1 := fop (P := Try.prog) hs2
    have HE : Hid ((FloatKind.f64.format.order r 0 == some .eq) = decide (sqS A B n = 0)) := by
      show _ = _
      rw [Fl.eq_V hq zero_I]
      by_cases h : sqS A B n = 0
      · rw [decide_eq_true h]; exact decide_eq_true (by rw [hz.2 h]; rfl)
      · rw [decide_eq_false h]; exact decide_eq_false (fun h2 => h (hz.1 (by simpa using h2)))
    have HLT := Lib.hid hlt
    clear hs hb hr hq hz hs2 hA hB hlt
    generalize decide (sqS A B n = 0) = bb at *
    go_enter Try.func3, Try.ntmps3
    cases hl : (FloatKind.f64.format.order (Fl.absB z) 4472074429978902528 == some .lt) with
    | false => have h := HLT.out; rw [hl] at h; cases h
    | true =>
    cases he : (FloatKind.f64.format.order r 0 == some .eq) with
    | _ =>
    have hbb : bb = _ := HE.out.symm.trans he
    subst hbb
    go_wp2_with (first
      | (go_at_call 4; refine (HW.out w.heap.size _ ((Grow.refl _).alloc _) (by go_simp)).mono ?_; rw [HB.out]; rintro e w1 ⟨rfl, hg⟩; have HG := Lib.hid (((Grow.refl _).alloc _).trans hg); clear hg)
      | (go_at_call 5; refine (HID.out _ HG.out).mono ?_; rintro e w2 ⟨rfl, hg⟩; have HG2 := Lib.hid (HG.out.trans hg); clear hg)
      | (go_at_call 8; refine (HSQ.out _ HG2.out).mono ?_; rintro e w3 ⟨rfl, -, hg⟩; have HG3 := Lib.hid (HG2.out.trans hg); clear hg)
      | (go_at_call 7; refine (HRT.out _).mono ?_; rintro e w4 ⟨rfl, rfl⟩)
      | (go_at_call 6; refine (abs_calls _ _).mono ?_; rintro e w5 ⟨rfl, rfl⟩)
      | (go_at_call 9; refine (HSP.out _ HG3.out).mono ?_; rintro e w6 ⟨rfl, hg⟩; have HG6 := Lib.hid (HG3.out.trans hg); clear hg))
    go_ret
    exact ⟨rfl, HG6.out⟩
end Go.Proofs.Ytmhpnogofebbbaa
