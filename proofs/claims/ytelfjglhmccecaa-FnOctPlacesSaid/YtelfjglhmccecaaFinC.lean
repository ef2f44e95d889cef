import Derived.Test.YtelfjglhmccecaaFin
namespace Go.Proofs.Ytelfjglhmccecaa
open Go.ChangeShapes Go.WideShapes Go.ChangeAt Go.RowKit Go.GrowR
set_option linter.unusedVariables false
set_option linter.unusedSimpArgs false
theorem finite_calls (x : Nat) (w : World) : Calls Try.prog 66 #[.float .f64 x] w (AllP (finB x) w) := by
  obtain ⟨z, w1, hr, he, hg⟩ := sub_self x w
  have HE := Lib.hid he; clear he
  have HG := Lib.hid hg; clear hg
  go_enter Try.func66, Try.ntmps66
  go_wp2
  go_ret
  exact ⟨by rw [HE.out]; rfl, HG.out⟩
set_option maxRecDepth 100000 in
set_option maxHeartbeats 2000000 in
theorem allFinite_calls (u : Value) (xs : List Nat) (w : World) (hu : FSl u xs w) (hl : xs.length ≤ 1099511627776) :
    Calls Try.prog 17 #[u] w (AllP (xs.all finB) w) := by
  obtain ⟨A, c, rfl, hc, hA⟩ := hu
  have HA := Lib.hid hA; clear hA
  go_enter Try.func17, Try.ntmps17
  go_wp2
  go_loopw [7] (fun i wr => ∃ k : Nat, i = .int .i64 k ∧ k ≤ xs.length ∧ Grow w wr ∧ (xs.take k).all finB = true) (fun i _ => xs.length - (intOf i).toNat)
  case atStart => exact ⟨0, rfl, Nat.zero_le _, Grow.refl _, rfl⟩
  case round =>
    obtain ⟨k, rfl, hk, hg, hall⟩ := hrel
    have HALL := Lib.hid hall; clear hall
    have HG := Lib.hid hg; clear hg
    by_cases hlt : k < xs.length
    case neg =>
      have HB : Hid (xs.all finB = true) := by
        have := HALL.out
        rw [List.take_of_length_le (by omega)] at this
        exact this
      go_wp2
      go_ret
      exact ⟨by rw [HB.out]; rfl, HG.out⟩
    case pos =>
      obtain ⟨x, hx⟩ : ∃ x, xs[k]? = some x := ⟨xs[k], by simp [hlt]⟩
      have HX := Lib.hid hx
      rcases HA.out with h0 | ⟨b, o, rfl, hcell⟩
      · exfalso; subst h0; simp at hlt
      have hxc := up_cell (hcell k x hx) HG.out
      clear hcell hx
      cases hp : finB x with
      | true =>
        have HP := Lib.hid hp; clear hp
        go_wp2_with (go_at_call 66; refine (finite_calls _ _).mono ?_; rintro e w' ⟨rfl, hg⟩; have HG2 := Lib.hid (HG.out.trans hg); clear hg; rw [HP.out])
        exact ⟨⟨k + 1, by go_num, by omega, HG2.out, by rw [all_succ _ _ _ _ HX.out, HALL.out, HP.out]; rfl⟩, by simp [intOf]; omega⟩
      | false =>
        have HP := Lib.hid hp; clear hp
        go_wp2_with (go_at_call 66; refine (finite_calls _ _).mono ?_; rintro e w' ⟨rfl, hg⟩; have HG2 := Lib.hid (HG.out.trans hg); clear hg; rw [HP.out])
        go_ret
        exact ⟨by rw [all_no HX.out HP.out]; rfl, HG2.out⟩
/-- lists of numbers that are finite are each the same as itself -/
theorem same_self {xs : List Nat} (h : xs.all finB = true) : sameB xs xs = true := by
  unfold sameB
  rw [decide_eq_true rfl, Bool.true_and, List.all_eq_true]
  intro i hi
  have hi' : i < xs.length := by simpa using hi
  have hx : xs.getD i 0 ∈ xs := by rw [List.getD_eq_getElem?_getD, List.getElem?_eq_getElem hi']; exact List.getElem_mem hi'
  obtain ⟨q, hq⟩ := finB_true (List.all_eq_true.1 h _ hx)
  unfold eqAt
  exact Fl.eqV hq hq
end Go.Proofs.Ytelfjglhmccecaa
