import Derived.Test.YtemobphkgbhhhaaGeo
import Derived.Test.YtemobphkgbhhhaaWhole
namespace Go.Proofs.Ytemobphkgbhhhaa
open Go.ChangeShapes Go.WideShapes Go.ChangeAt Go.RowKit Go.GrowR
set_option linter.unusedVariables false
set_option linter.unusedSimpArgs false
set_option maxHeartbeats 2000000 in
theorem eachWholeG (k l r : Int) (u : Value) (B E A4 : Option Addr) (m d q e c4 : Nat) (xs : List Nat) (w : World) (hu : FSl u xs w) (hl : xs.length ≤ 1099511627776) :
    Calls Try.prog 10 #[GeoF k l r u (.slice B m d) (.slice E q e) (.slice A4 0 c4), .func (Fn.func 11) #[] #[]] w (WholeP (xs.all w20) w) := by
  have HU := Lib.hid hu
  obtain ⟨A, c, rfl, -, hA⟩ := hu
  have HA := Lib.hid hA; clear hA
  go_enter Try.func10, Try.ntmps10
  go_wp2
  go_loop [12] (fun i => ∃ k : Nat, k ≤ xs.length ∧ i = .int .i64 k ∧ (xs.take k).all w20 = true) (fun i => xs.length - (intOf i).toNat)
  case atStart => exact ⟨0, Nat.zero_le _, rfl, rfl⟩
  case round =>
    obtain ⟨j, hj, rfl, hall⟩ := hrel
    have HL := Lib.hid hall; clear hall
    by_cases hlt : j < xs.length
    case neg =>
      have hje : j = xs.length := by omega
      have HJ := Lib.hid hje; clear hje
      go_wp2
      go_loop [24] (fun i => i = .int .i64 0) (fun _ => 0)
      case atStart => rfl
      case round =>
        subst hrel
        go_wp2
        go_ret
        refine ⟨?_, (Grow.refl w).alloc _⟩
        have := HL.out
        rw [List.take_of_length_le (by have := HJ.out; omega)] at this
        rw [this]; rfl
    case pos =>
      obtain ⟨x, hx⟩ : ∃ x, xs[j]? = some x := ⟨xs[j], by simp [hlt]⟩
      rcases HA.out with h0 | ⟨b1, o1, rfl, hcell⟩
      · exfalso; subst h0; simp at hlt
      have hxc := up_cell (hcell j x hx) ((Grow.refl w).alloc (Obj.cells #[.int .i64 k, .int .i64 l, .int .i64 r, .slice (some ⟨b1, o1, none⟩) xs.length c, .slice B m d, .slice E q e, .slice A4 0 c4] 28))
      have HX := Lib.hid hx
      clear hcell hx
      cases hb : w20 x
      all_goals
        have HB := Lib.hid hb; clear hb
        go_wp2_with (go_at_call 11; refine (gWholeB _ _ _ HB.out).mono ?_; rintro e w' ⟨rfl, rfl⟩)
      · go_ret
        exact ⟨by rw [wall_false HX.out HB.out]; rfl, (Grow.refl w).alloc _⟩
      · go_round
        case rel => exact ⟨j + 1, by omega, by go_num, by rw [wall_take HX.out, HL.out, HB.out]; rfl⟩
        case measure => simp [intOf]; omega
end Go.Proofs.Ytemobphkgbhhhaa
