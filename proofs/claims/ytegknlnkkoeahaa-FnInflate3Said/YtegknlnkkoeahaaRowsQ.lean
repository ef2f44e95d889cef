import Derived.Test.YtegknlnkkoeahaaInfl
import Derived.Test.YtegknlnkkoeahaaSame
namespace Go.Proofs.Ytegknlnkkoeahaa
open Go.ChangeShapes Go.WideShapes Go.ChangeAt Go.RowKit Go.GrowR
set_option linter.unusedVariables false
set_option linter.unusedSimpArgs false

theorem eqNilF (b o n c : Nat) (w : World) : (binOp .eql 22 (.slice (some ⟨b, o, none⟩) n c) (.slice none 0 0)).run Try.prog w = .ok (.bool false) w := by
  simp only [binOp]
  simp [run_equal_slice_nil (P := Try.prog) w 22 42 (some ⟨b, o, none⟩) n c undR0]
theorem fslF {v : Value} {xs : List Nat} {w : World} (h : FSl v xs w) : ∃ A c, v = .slice A xs.length c ∧ True := let ⟨A, c, h1, _⟩ := h; ⟨A, c, h1, trivial⟩
theorem L1F {xs : List (List Nat)} {v : Value} {w : World} (h : L1 xs v w) : ∃ A c, v = .slice A xs.length c ∧ True := let ⟨A, c, h1, _⟩ := SlE.form h; ⟨A, c, h1, trivial⟩
theorem L2F {xs : List (List (List Nat))} {v : Value} {w : World} (h : L2 xs v w) : ∃ A c, v = .slice A xs.length c ∧ True := let ⟨A, c, h1, _⟩ := SlE.form h; ⟨A, c, h1, trivial⟩
set_option maxRecDepth 100000 in
set_option maxHeartbeats 4000000 in
theorem gRow_calls (u v : Value) (xs : List Nat) (w : World) (hu : FSl u xs w) (hv : FSl v xs w) (hx : xs ≠ [] ∧ xs.length ≤ 10000000000) : Calls Try.prog 87 #[u, v] w fun e w' => e = .returned (.bool true) ∧ Grow w w' := by
  obtain ⟨h0, hl⟩ := hx
  have HU := Lib.hid hu; have HV := Lib.hid hv
  obtain ⟨A, c, rfl, hc, hA⟩ := hu
  obtain ⟨B, d, rfl, hd, hB⟩ := hv
  rcases hA with hA | ⟨b1, o1, rfl, -⟩
  · exact absurd hA h0
  rcases hB with hB | ⟨b2, o2, rfl, -⟩
  · exact absurd hB h0
  have heq := eqNilF
  have HS := Lib.hid (same_calls _ _ xs xs w HU.out HV.out (by omega) (by omega))
  clear h0 hc hd
  have hdec : decide (xs = xs) = true := by simp
  have HD := Lib.hid hdec
  clear hdec
  go_enter Try.func87, Try.ntmps87
  go_wp2_with (go_at_call 29; refine (HS.out).mono ?_; rintro e w2 ⟨rfl, hg2⟩; have HG2 := Lib.hid hg2; clear hg2; rw [HD.out])
  go_ret
  exact ⟨rfl, HG2.out⟩

set_option maxRecDepth 100000 in
set_option maxHeartbeats 4000000 in
theorem gRows_calls (u v : Value) (xs : List (List Nat)) (w : World) (hu : L1 xs u w) (hv : L1 xs v w) (hlx : xs.length ≤ 10000000000) (hx : ∀ r ∈ xs, r ≠ [] ∧ r.length ≤ 10000000000) : Calls Try.prog 65 #[u, v] w fun e w' => e = .returned (.bool true) ∧ Grow w w' := by
  obtain ⟨A, c, rfl, -, hA⟩ := SlE.form hu
  obtain ⟨B, d, rfl, -, hB⟩ := SlE.form hv
  have HA := Lib.hid hA; have HB := Lib.hid hB; have HX := Lib.hid hx
  have e1 : (xs.length != xs.length) = false := by simp
  clear hA hB hu hv hx
  go_enter Try.func65, Try.ntmps65
  go_wp2
  go_loopw [5, 6, 14] (fun _ _ vi wr => ∃ q : Nat, q ≤ xs.length ∧ vi = .int .i64 q ∧ Grow w wr) (fun _ _ vi _ => (xs.length - intOf vi).toNat)
  case atStart => exact ⟨0, Nat.zero_le _, rfl, Grow.refl w⟩
  case round =>
    obtain ⟨q, hq, rfl, hg⟩ := hrel
    have HG := Lib.hid hg
    by_cases hlt : q < xs.length
    · obtain ⟨x, hxq⟩ : ∃ p, xs[q]? = some p := ⟨xs[q], by simp [hlt]⟩
      rcases HA.out with h0 | ⟨b1, o1, rfl, hc1⟩
      · exfalso; rw [h0] at hlt; simp at hlt
      rcases HB.out with h0 | ⟨b2, o2, rfl, hc2⟩
      · exfalso; rw [h0] at hlt; simp at hlt
      obtain ⟨u1, d1, f1⟩ := hc1 q x hxq
      obtain ⟨u2, d2, f2⟩ := hc2 q x hxq
      have d1' := up_cell d1 hg; have d2' := up_cell d2 hg
      have HC := Lib.hid (gRow_calls _ _ x wr (FSl.up _ _ f1 hg) (FSl.up _ _ f2 hg) (HX.out x (List.mem_of_getElem? hxq)))
      have hq1 : IntKind.i64.wrap ((q : Int) + 1) = (q : Int) + 1 := IntWalk.i64_in _ (by omega)
      obtain ⟨A1, k1, rfl, -⟩ := fslF f1
      obtain ⟨A2, k2, rfl, -⟩ := fslF f2
      clear hc1 hc2 f1 f2 d1 d2 hxq hg
      go_wp2_with (go_at_call 87; refine (HC.out).mono ?_; rintro e w2 ⟨rfl, hg2⟩; have HG2 := Lib.hid (HG.out.trans hg2); clear hg2)
      go_roundw
      case rel => exact ⟨q + 1, by omega, by go_num, HG2.out⟩
      case measure => simp [intOf]; omega
    · clear hg
      go_wp2
      go_ret
      exact ⟨rfl, HG.out⟩

set_option maxRecDepth 100000 in
set_option maxHeartbeats 4000000 in
theorem gRowss_calls (u v : Value) (xs : List (List (List Nat))) (w : World) (hu : L2 xs u w) (hv : L2 xs v w) (hlx : xs.length ≤ 10000000000) (hx : ∀ q ∈ xs, q.length ≤ 10000000000 ∧ ∀ r ∈ q, r ≠ [] ∧ r.length ≤ 10000000000) : Calls Try.prog 36 #[u, v] w fun e w' => e = .returned (.bool true) ∧ Grow w w' := by
  obtain ⟨A, c, rfl, -, hA⟩ := SlE.form hu
  obtain ⟨B, d, rfl, -, hB⟩ := SlE.form hv
  have HA := Lib.hid hA; have HB := Lib.hid hB; have HX := Lib.hid hx
  have e1 : (xs.length != xs.length) = false := by simp
  clear hA hB hu hv hx
  go_enter Try.func36, Try.ntmps36
  go_wp2
  go_loopw [5, 6, 14] (fun _ _ vi wr => ∃ q : Nat, q ≤ xs.length ∧ vi = .int .i64 q ∧ Grow w wr) (fun _ _ vi _ => (xs.length - intOf vi).toNat)
  case atStart => exact ⟨0, Nat.zero_le _, rfl, Grow.refl w⟩
  case round =>
    obtain ⟨q, hq, rfl, hg⟩ := hrel
    have HG := Lib.hid hg
    by_cases hlt : q < xs.length
    · obtain ⟨x, hxq⟩ : ∃ p, xs[q]? = some p := ⟨xs[q], by simp [hlt]⟩
      rcases HA.out with h0 | ⟨b1, o1, rfl, hc1⟩
      · exfalso; rw [h0] at hlt; simp at hlt
      rcases HB.out with h0 | ⟨b2, o2, rfl, hc2⟩
      · exfalso; rw [h0] at hlt; simp at hlt
      obtain ⟨u1, d1, f1⟩ := hc1 q x hxq
      obtain ⟨u2, d2, f2⟩ := hc2 q x hxq
      have d1' := up_cell d1 hg; have d2' := up_cell d2 hg
      have HC := Lib.hid (gRows_calls _ _ x wr (SlE.up (fun _ _ => FSl.up) _ _ f1 hg) (SlE.up (fun _ _ => FSl.up) _ _ f2 hg) (HX.out x (List.mem_of_getElem? hxq)).1 (HX.out x (List.mem_of_getElem? hxq)).2)
      have hq1 : IntKind.i64.wrap ((q : Int) + 1) = (q : Int) + 1 := IntWalk.i64_in _ (by omega)
      obtain ⟨A1, k1, rfl, -⟩ := L1F f1
      obtain ⟨A2, k2, rfl, -⟩ := L1F f2
      clear hc1 hc2 f1 f2 d1 d2 hxq hg
      go_wp2_with (go_at_call 65; refine (HC.out).mono ?_; rintro e w2 ⟨rfl, hg2⟩; have HG2 := Lib.hid (HG.out.trans hg2); clear hg2)
      go_roundw
      case rel => exact ⟨q + 1, by omega, by go_num, HG2.out⟩
      case measure => simp [intOf]; omega
    · clear hg
      go_wp2
      go_ret
      exact ⟨rfl, HG.out⟩

set_option maxRecDepth 100000 in
set_option maxHeartbeats 4000000 in
theorem gRowsss_calls (u v : Value) (xs : List (List (List (List Nat)))) (w : World) (hu : L3 xs u w) (hv : L3 xs v w) (hlx : xs.length ≤ 10000000000) (hx : ∀ z ∈ xs, z.length ≤ 10000000000 ∧ ∀ q ∈ z, q.length ≤ 10000000000 ∧ ∀ r ∈ q, r ≠ [] ∧ r.length ≤ 10000000000) : Calls Try.prog 10 #[u, v] w fun e w' => e = .returned (.bool true) ∧ Grow w w' := by
  obtain ⟨A, c, rfl, -, hA⟩ := SlE.form hu
  obtain ⟨B, d, rfl, -, hB⟩ := SlE.form hv
  have HA := Lib.hid hA; have HB := Lib.hid hB; have HX := Lib.hid hx
  have e1 : (xs.length != xs.length) = false := by simp
  clear hA hB hu hv hx
  go_enter Try.func10, Try.ntmps10
  go_wp2
  go_loopw [5, 6, 14] (fun _ _ vi wr => ∃ q : Nat, q ≤ xs.length ∧ vi = .int .i64 q ∧ Grow w wr) (fun _ _ vi _ => (xs.length - intOf vi).toNat)
  case atStart => exact ⟨0, Nat.zero_le _, rfl, Grow.refl w⟩
  case round =>
    obtain ⟨q, hq, rfl, hg⟩ := hrel
    have HG := Lib.hid hg
    by_cases hlt : q < xs.length
    · obtain ⟨x, hxq⟩ : ∃ p, xs[q]? = some p := ⟨xs[q], by simp [hlt]⟩
      rcases HA.out with h0 | ⟨b1, o1, rfl, hc1⟩
      · exfalso; rw [h0] at hlt; simp at hlt
      rcases HB.out with h0 | ⟨b2, o2, rfl, hc2⟩
      · exfalso; rw [h0] at hlt; simp at hlt
      obtain ⟨u1, d1, f1⟩ := hc1 q x hxq
      obtain ⟨u2, d2, f2⟩ := hc2 q x hxq
      have d1' := up_cell d1 hg; have d2' := up_cell d2 hg
      have HC := Lib.hid (gRowss_calls _ _ x wr (SlE.up (fun _ _ => SlE.up fun _ _ => FSl.up) _ _ f1 hg) (SlE.up (fun _ _ => SlE.up fun _ _ => FSl.up) _ _ f2 hg) (HX.out x (List.mem_of_getElem? hxq)).1 (HX.out x (List.mem_of_getElem? hxq)).2)
      have hq1 : IntKind.i64.wrap ((q : Int) + 1) = (q : Int) + 1 := IntWalk.i64_in _ (by omega)
      obtain ⟨A1, k1, rfl, -⟩ := L2F f1
      obtain ⟨A2, k2, rfl, -⟩ := L2F f2
      clear hc1 hc2 f1 f2 d1 d2 hxq hg
      go_wp2_with (go_at_call 36; refine (HC.out).mono ?_; rintro e w2 ⟨rfl, hg2⟩; have HG2 := Lib.hid (HG.out.trans hg2); clear hg2)
      go_roundw
      case rel => exact ⟨q + 1, by omega, by go_num, HG2.out⟩
      case measure => simp [intOf]; omega
    · clear hg
      go_wp2
      go_ret
      exact ⟨rfl, HG.out⟩
end Go.Proofs.Ytegknlnkkoeahaa
