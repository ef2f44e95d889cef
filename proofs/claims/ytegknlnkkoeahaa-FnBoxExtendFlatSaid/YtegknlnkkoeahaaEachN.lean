import Derived.Test.YtegknlnkkoeahaaBBox
import Derived.Test.YtegknlnkkoeahaaSl
import Derived.Test.YtegknlnkkoeahaaFStride
namespace Go.Proofs.Ytegknlnkkoeahaa
open Go.ChangeShapes Go.WideShapes Go.ChangeAt Go.RowKit Go.GrowR
set_option linter.unusedVariables false
set_option linter.unusedSimpArgs false
def Told (r : Bool) (w : World) (e : Ending) (w' : World) : Prop := e = .returned (.bool r) ∧ Grow w w'
theorem Told.mk {r r' : Bool} {w w' : World} (h : r = r') (hg : Grow w w') : Told r w (.returned (.bool r')) w' := by subst h; exact ⟨rfl, hg⟩
abbrev GeoV (k l r : Int) (u : Value) : Value := .agg #[.int .i64 k, .int .i64 l, .int .i64 r, u, .slice none 0 0, .slice none 0 0, .slice none 0 0]
theorem all_take {xs : List Nat} {P : Nat → Bool} {k x : Nat} (hx : xs[k]? = some x) : (xs.take (k + 1)).all P = ((xs.take k).all P && P x) := by
  rw [List.take_add_one, hx, List.all_append]; simp
theorem all_false {xs : List Nat} {P : Nat → Bool} {k x : Nat} (hx : xs[k]? = some x) (h : P x = false) : xs.all P = false := by
  rw [List.all_eq_false]
  exact ⟨x, List.mem_of_getElem? hx, by rw [h]; simp⟩
theorem gNumberB (x : Nat) (b : Bool) (w : World) (h : numB x = b) : Calls Try.prog 20 #[.float .f64 x] w fun e w' => e = .returned (.bool b) ∧ w' = w := by
  subst h; exact gNumber_calls x w
set_option maxHeartbeats 2000000 in
theorem eachNumber_calls (k l r : Int) (u : Value) (xs : List Nat) (w : World) (hu : FSl u xs w) (hl : xs.length ≤ 1099511627776) :
    Calls Try.prog 13 #[GeoV k l r u, .func (Fn.func 20) #[] #[]] w (Told (xs.all numB) w) := by
  have HU := Lib.hid hu
  obtain ⟨A, c, rfl, -, hA⟩ := hu
  have HA := Lib.hid hA; clear hA
  go_enter Try.func13, Try.ntmps13
  go_wp2
  go_loop [12] (fun i => ∃ k : Nat, k ≤ xs.length ∧ i = .int .i64 k ∧ (xs.take k).all numB = true) (fun i => xs.length - (intOf i).toNat)
  case atStart => exact ⟨0, Nat.zero_le _, rfl, rfl⟩
  case round =>
    obtain ⟨j, hj, rfl, hall⟩ := hrel
    have HL := Lib.hid hall; clear hall
    by_cases hlt : j < xs.length
    case neg =>
      have hje : j = xs.length := by omega
      have HJ := Lib.hid hje; clear hje
      go_wp2
      go_loop [24] (fun i => i = .int .i64 0) (fun _ => 0)
      case atStart => rfl
      case round =>
        subst hrel
        go_wp2
        go_ret
        refine Told.mk ?_ ((Grow.refl w).alloc _)
        have := HL.out
        rwa [List.take_of_length_le (by have := HJ.out; omega)] at this
    case pos =>
      obtain ⟨x, hx⟩ : ∃ x, xs[j]? = some x := ⟨xs[j], by simp [hlt]⟩
      rcases HA.out with h0 | ⟨b1, o1, rfl, hcell⟩
      · exfalso; subst h0; simp at hlt
      have hxc := up_cell (hcell j x hx) ((Grow.refl w).alloc (Obj.cells #[.int .i64 k, .int .i64 l, .int .i64 r, .slice (some ⟨b1, o1, none⟩) xs.length c, .slice none 0 0, .slice none 0 0, .slice none 0 0] 28))
      have HX := Lib.hid hx
      clear hcell hx
      cases hb : numB x
      all_goals
        have HB := Lib.hid hb; clear hb
        go_wp2_with (go_at_call 20; refine (gNumberB _ _ _ HB.out).mono ?_; rintro e w' ⟨rfl, rfl⟩)
      · go_ret
        exact Told.mk (all_false HX.out HB.out) ((Grow.refl w).alloc _)
      · go_round
        case rel => exact ⟨j + 1, by omega, by go_num, by rw [all_take HX.out, HL.out, HB.out]; rfl⟩
        case measure => simp [intOf]; omega
end Go.Proofs.Ytegknlnkkoeahaa
