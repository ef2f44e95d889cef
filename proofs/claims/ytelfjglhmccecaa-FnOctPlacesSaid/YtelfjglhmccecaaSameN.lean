import Derived.Test.YtelfjglhmccecaaRowsOf
namespace Go.Proofs.Ytelfjglhmccecaa
open Go.ChangeShapes Go.WideShapes Go.ChangeAt Go.RowKit Go.GrowR
set_option linter.unusedVariables false
set_option linter.unusedSimpArgs false
def eqAt (xs ys : List Nat) (i : Nat) : Bool := FloatKind.f64.format.order (xs.getD i 0) (ys.getD i 0) == some .eq
/-- as many numbers, each equal to its own -/
def sameB (xs ys : List Nat) : Bool := decide (xs.length = ys.length) && (List.range xs.length).all (eqAt xs ys)
set_option maxRecDepth 100000 in
set_option maxHeartbeats 2000000 in
theorem sameNums_calls (u v : Value) (xs ys : List Nat) (w : World) (hu : FSl u xs w) (hv : FSl v ys w) (hl : xs.length ≤ 1099511627776) (hl2 : ys.length ≤ 1099511627776) :
    Calls Try.prog 21 #[u, v] w (AllP (sameB xs ys) w) := by
  obtain ⟨A, c, rfl, hc, hA⟩ := hu
  obtain ⟨B, d, rfl, hd, hB⟩ := hv
  have HA := Lib.hid hA; clear hA
  have HB := Lib.hid hB; clear hB
  by_cases hll : xs.length = ys.length
  case neg =>
    have HD : Hid (sameB xs ys = false) := by show _ = _; unfold sameB; rw [decide_eq_false hll]; rfl
    have hne : ((xs.length : Int) != (ys.length : Int)) = true := by simp; omega
    clear hll
    go_enter Try.func21, Try.ntmps21
    go_wp2
    go_ret
    exact ⟨by rw [HD.out]; rfl, Grow.refl _⟩
  have hne : ((xs.length : Int) != (ys.length : Int)) = false := by simp; omega
  have HL := Lib.hid hll; clear hll
  go_enter Try.func21, Try.ntmps21
  go_wp2
  clear hne
  go_loopw [14] (fun i wr => ∃ j : Nat, i = .int .i64 j ∧ j ≤ xs.length ∧ Grow w wr ∧ (List.range j).all (eqAt xs ys) = true) (fun i _ => xs.length - (intOf i).toNat)
  case atStart => exact ⟨0, rfl, Nat.zero_le _, Grow.refl _, rfl⟩
  case round =>
    obtain ⟨j, rfl, hj, hg, hall⟩ := hrel
    have HE := Lib.hid hall; clear hall
    have HG := Lib.hid hg; clear hg
    by_cases hlt : j < xs.length
    case neg =>
      have HD : Hid (sameB xs ys = true) := by
        show _ = _
        have h := HE.out; have h2 := HL.out
        have : j = xs.length := by omega
        subst this
        unfold sameB; rw [decide_eq_true h2, h]; rfl
      go_wp2
      go_ret
      exact ⟨by rw [HD.out]; rfl, HG.out⟩
    case pos =>
      have hx : xs[j]? = some (xs.getD j 0) := getD_some hlt
      have hy : ys[j]? = some (ys.getD j 0) := getD_some (by have := HL.out; omega)
      have hlt2 : (j : Int) < ys.length := by have := HL.out; omega
      rcases HA.out with h0 | ⟨b1, o1, rfl, hcell⟩
      · exfalso; subst h0; simp at hlt
      rcases HB.out with h0 | ⟨b2, o2, rfl, hcell2⟩
      · exfalso; subst h0; simp at hlt2; omega
      have c1 := up_cell (hcell _ _ hx) HG.out
      have c2 := up_cell (hcell2 _ _ hy) HG.out
      have HEQ : Hid (eqAt xs ys j = (FloatKind.f64.format.order (xs.getD j 0) (ys.getD j 0) == some .eq)) := by show _ = _; rfl
      generalize xs.getD j 0 = x at *
      generalize ys.getD j 0 = y at *
      clear hx hy hcell hcell2
      cases he : (FloatKind.f64.format.order x y == some .eq) with
      | true =>
        have he' : (FloatKind.f64.format.order x y != some .eq) = false := by rw [bne, he]; rfl
        have HN : Hid ((List.range (j + 1)).all (eqAt xs ys) = true) := by
          show _ = _
          rw [List.range_succ, List.all_append, HE.out]; rw [List.all_cons, HEQ.out, he]; rfl
        clear he
        go_wp2
        exact ⟨⟨j + 1, by go_num, by omega, HG.out, HN.out⟩, by simp [intOf]; omega⟩
      | false =>
        have he' : (FloatKind.f64.format.order x y != some .eq) = true := by rw [bne, he]; rfl
        have HD : Hid (sameB xs ys = false) := by
          show _ = _
          unfold sameB
          have : (List.range xs.length).all (eqAt xs ys) = false := by
            rw [List.all_eq_false]
            exact ⟨j, by simpa using hlt, by rw [HEQ.out, he]; simp⟩
          rw [this, Bool.and_false]
        clear he
        go_wp2
        go_ret
        exact ⟨by rw [HD.out]; rfl, HG.out⟩
end Go.Proofs.Ytelfjglhmccecaa
