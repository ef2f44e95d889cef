import Derived.Test.YtincapjbhbmeiaaEqualAt2
namespace Go.Proofs.Ytincapjbhbmeiaa
open Go.ChangeShapes Go.WideShapes Go.ChangeAt Go.RowKit Go.GrowR
set_option linter.unusedVariables false
set_option linter.unusedSimpArgs false
theorem fsl_nil {A : Option Addr} {n c : Nat} {xs : List Nat} {w : World} (h : FSl (.slice A n c) xs w) : A = none → n = 0 := by
  rintro rfl
  obtain ⟨A', c', h1, _, h2⟩ := h
  cases h1
  rcases h2 with rfl | ⟨b, o, h, _⟩
  · rfl
  · cases h
theorem fell_i (A B : Option Addr) (n c m d : Nat) (xs ys : List Nat) (i j : Int) (w : World) (hu : FSl (.slice A n c) xs w) (hv : FSl (.slice B m d) ys w) (hi : i < 0 ∨ (n : Int) ≤ i) :
    Calls Try.prog 67 #[.slice A n c, .int .i64 i, .slice B m d, .int .i64 j] w (Fell w) := by
  by_cases hj : j < 0 ∨ (m : Int) ≤ j
  · exact equal_out1 A B n c m d i j w (fsl_nil hu) (fsl_nil hv) hi hj
  · obtain ⟨k, rfl⟩ : ∃ k : Nat, j = k := ⟨j.toNat, by omega⟩
    obtain ⟨B', d', h1, _, h2⟩ := hv
    cases h1
    have hk : k < ys.length := by omega
    rcases h2 with rfl | ⟨b, o, rfl, hc⟩
    · simp at hk
    · exact equal_out2 A b o n c _ d k ys[k] i w (fsl_nil hu) hi hk (hc k _ (by simp [hk]))
theorem fell_j (A B : Option Addr) (n c m d k : Nat) (xs ys : List Nat) (j : Int) (w : World) (hu : FSl (.slice A n c) xs w) (hv : FSl (.slice B m d) ys w) (hi : k < n) (hj : j < 0 ∨ (m : Int) ≤ j) :
    Calls Try.prog 67 #[.slice A n c, .int .i64 k, .slice B m d, .int .i64 j] w (Fell w) := by
  obtain ⟨A', c', h1, _, h2⟩ := hu
  cases h1
  rcases h2 with rfl | ⟨b, o, rfl, hc⟩
  · simp at hi
  · exact equal_out3 B b o _ c m d k xs[k] j w (fsl_nil hv) hj hi (hc k _ (by simp [hi]))
set_option maxHeartbeats 4000000 in
theorem law_calls (u v : Value) (xs ys : List Nat) (i j : Int) (w : World) (hu : FSl u xs w) (hv : FSl v ys w) :
    Calls Try.prog 11 #[u, .int .i64 i, v, .int .i64 j] w fun e w' => e = .returned (.bool true) ∧ Grow w w' := by
  have HU := Lib.hid hu
  have HV := Lib.hid hv
  obtain ⟨A, c, rfl, -, -⟩ := hu
  obtain ⟨B, d, rfl, -, -⟩ := hv

  by_cases hn : xs.length ≤ 1000
  case neg =>
    go_enter Try.func11, Try.ntmps11
    go_wp2
    all_goals (go_ret; exact ⟨rfl, Grow.refl _⟩)
  by_cases hm : ys.length ≤ 1000
  case neg =>
    go_enter Try.func11, Try.ntmps11
    go_wp2
    all_goals (go_ret; exact ⟨rfl, Grow.refl _⟩)
  by_cases ha : i < 0
  case pos =>
    have HK := Lib.hid (equalAt_out _ _ i j w fun w' hg => fell_i A B _ c _ d xs ys i j w' (FSl.up _ _ HU.out hg) (FSl.up _ _ HV.out hg) (.inl ha))
    cases e1 : (i == (xs.length : Int) - 1) <;> cases e2 : (j == (ys.length : Int) - 1)
    all_goals
      go_enter Try.func11, Try.ntmps11
      go_wp2_with (go_at_call 33; refine HK.out.mono ?_; rintro e w' ⟨rfl, hg⟩; have HG := Lib.hid hg; clear hg)
      all_goals (go_ret; first | exact ⟨rfl, Grow.refl _⟩ | exact ⟨rfl, HG.out⟩)
  obtain ⟨k, rfl⟩ : ∃ k : Nat, i = k := ⟨i.toNat, by omega⟩
  clear ha
  by_cases hb : xs.length ≤ k
  case pos =>
    have HK := Lib.hid (equalAt_out _ _ k j w fun w' hg => fell_i A B _ c _ d xs ys k j w' (FSl.up _ _ HU.out hg) (FSl.up _ _ HV.out hg) (.inr (by omega)))
    have hb1 : ((k : Int) == (xs.length : Int) - 1) = false := by rw [beq_eq_false_iff_ne]; omega
    have hb2 : decide (xs.length ≤ k) = true := by simpa using hb
    cases e2 : (j == (ys.length : Int) - 1)
    all_goals
      go_enter Try.func11, Try.ntmps11
      go_wp2_with (go_at_call 33; refine HK.out.mono ?_; rintro e w' ⟨rfl, hg⟩; have HG := Lib.hid hg; clear hg)
      all_goals (go_ret; first | exact ⟨rfl, Grow.refl _⟩ | exact ⟨rfl, HG.out⟩)
  by_cases hs : k + 1 = xs.length
  case pos =>
    have hb1 : ((k : Int) == (xs.length : Int) - 1) = true := by rw [beq_iff_eq]; omega
    clear hs
    go_enter Try.func11, Try.ntmps11
    go_wp2
    all_goals (go_ret; exact ⟨rfl, Grow.refl _⟩)
  have hk : k + 1 < xs.length := by omega
  have hb1 : ((k : Int) == (xs.length : Int) - 1) = false := by rw [beq_eq_false_iff_ne]; omega
  have hb2 : decide (xs.length ≤ k) = false := by simp; omega
  clear hb hs
  by_cases hc : j < 0
  case pos =>
    have HK := Lib.hid (equalAt_out _ _ k j w fun w' hg => fell_j A B _ c _ d k xs ys j w' (FSl.up _ _ HU.out hg) (FSl.up _ _ HV.out hg) (by omega) (.inl hc))
    cases e2 : (j == (ys.length : Int) - 1)
    all_goals
      go_enter Try.func11, Try.ntmps11
      go_wp2_with (go_at_call 33; refine HK.out.mono ?_; rintro e w' ⟨rfl, hg⟩; have HG := Lib.hid hg; clear hg)
      all_goals (go_ret; first | exact ⟨rfl, Grow.refl _⟩ | exact ⟨rfl, HG.out⟩)
  obtain ⟨l, rfl⟩ : ∃ l : Nat, j = l := ⟨j.toNat, by omega⟩
  clear hc
  by_cases hd : ys.length ≤ l
  case pos =>
    have HK := Lib.hid (equalAt_out _ _ k l w fun w' hg => fell_j A B _ c _ d k xs ys l w' (FSl.up _ _ HU.out hg) (FSl.up _ _ HV.out hg) (by omega) (.inr (by omega)))
    have hd1 : ((l : Int) == (ys.length : Int) - 1) = false := by rw [beq_eq_false_iff_ne]; omega
    have hd2 : decide (ys.length ≤ l) = true := by simpa using hd
    go_enter Try.func11, Try.ntmps11
    go_wp2_with (go_at_call 33; refine HK.out.mono ?_; rintro e w' ⟨rfl, hg⟩; have HG := Lib.hid hg; clear hg)
    all_goals (go_ret; first | exact ⟨rfl, Grow.refl _⟩ | exact ⟨rfl, HG.out⟩)
  by_cases hs : l + 1 = ys.length
  case pos =>
    have hd1 : ((l : Int) == (ys.length : Int) - 1) = true := by rw [beq_iff_eq]; omega
    clear hs
    go_enter Try.func11, Try.ntmps11
    go_wp2
    all_goals (go_ret; exact ⟨rfl, Grow.refl _⟩)
  have hl : l + 1 < ys.length := by omega
  exact law_in _ _ xs ys k l xs[k] ys[l] xs[k + 1] ys[l + 1] w HU.out HV.out hk hl hn hm (by simp) (by simp) (by simp) (by simp)
end Go.Proofs.Ytincapjbhbmeiaa
