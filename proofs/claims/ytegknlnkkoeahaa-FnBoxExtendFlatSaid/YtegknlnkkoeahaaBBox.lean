import Derived.Test.YtegknlnkkoeahaaBoxA
import Derived.BigQuiet
import Derived.Deep.QuietTactic
namespace Go.Proofs.Ytegknlnkkoeahaa
open Go.ChangeShapes Go.WideShapes Go.ChangeAt Go.RowKit Go.GrowR
set_option linter.unusedVariables false
set_option linter.unusedSimpArgs false
abbrev numB (x : Nat) : Bool := FloatKind.f64.format.order x x == some .eq
def GoodBox (n : Int) (xs ys : List Nat) : Prop := 0 ≤ n ∧ n ≤ 9 ∧ (xs.length : Int) = strideN n ∧ xs.length = ys.length ∧ (∀ (k x : Nat), xs[k]? = some x → numB x = true) ∧ ∀ (k x : Nat), ys[k]? = some x → numB x = true
set_option maxHeartbeats 4000000 in
theorem bBox_calls (b0 c : Nat) (n : Int) (u v : Value) (xs ys : List Nat) (w : World) (h0 : w.cell? ⟨b0, 0, none⟩ = some (.int .i64 n)) (h1 : w.cell? ⟨b0, 1, none⟩ = some u) (h2 : w.cell? ⟨b0, 2, none⟩ = some v)
    (hu : FSl u xs w) (hv : FSl v ys w) (hl : xs.length ≤ 1099511627776) (hl2 : ys.length ≤ 1099511627776) :
    Calls Try.prog 18 #[.slice (some ⟨b0, 0, none⟩) 1 c] w fun e w' => ∃ r, e = .returned (.bool r) ∧ Grow w w' ∧ (r = true → GoodBox n xs ys) := by
  obtain ⟨A, ca, rfl, -, hA⟩ := hu
  obtain ⟨B, cb, rfl, -, hB⟩ := hv
  have HA := Lib.hid hA; clear hA
  have HB := Lib.hid hB; clear hB
  have H0 := Lib.hid h0; clear h0
  have H1 := Lib.hid h1; clear h1
  have H2 := Lib.hid h2; clear h2
  go_enter Try.func18, Try.ntmps18
  go_wp2
  go_loopw [8] (fun i wr => ∃ k : Nat, i = .int .i64 k ∧ k ≤ 1 ∧ Grow w wr ∧ (k = 1 → GoodBox n xs ys)) (fun i _ => 1 - (intOf i).toNat)
  case atStart => exact ⟨0, rfl, by omega, Grow.refl w, by intro h; cases h⟩
  case round =>
    obtain ⟨k, rfl, hk, hg, hgood⟩ := hrel
    by_cases hk1 : k = 1
    case pos =>
      subst hk1
      have HG := Lib.hid (hgood rfl); clear hgood
      go_wp2
      go_ret
      exact ⟨_, rfl, hg, fun _ => HG.out⟩
    case neg =>
      obtain rfl : k = 0 := by omega
      have h0 := up_cell H0.out hg
      have h1 := up_cell H1.out hg
      have h2 := up_cell H2.out hg
      have HGr := Lib.hid hg; clear hg hgood hk1 hk
      by_cases n0 : n < 0
      case pos =>
        go_wp2
        go_quiet (fail)
        go_wp2
        go_ret
        exact ⟨_, rfl, ((HGr.out).alloc _).drewN _, by intro h; cases h⟩
      have N0 := Lib.hid n0
      have n0' : decide (n < 0) = false := by simpa using n0
      clear n0
      by_cases n9 : 9 < n
      case pos =>
        go_wp2
        go_quiet (fail)
        go_wp2
        go_ret
        exact ⟨_, rfl, ((HGr.out).alloc _).drewN _, by intro h; cases h⟩
      have N9 := Lib.hid n9
      have n9' : decide (9 < n) = false := by simpa using n9
      clear n9
      cases hs : ((xs.length : Int) != strideN n) with
      | true =>
        go_wp2
        go_quiet ((go_at_call 22; exact Calls.quiet_of_same (stride_calls _ _)))
        go_wp2
        go_ret
        exact ⟨_, rfl, ((HGr.out).alloc _).drewN _, by intro h; cases h⟩
      | false =>
      cases hs2 : ((ys.length : Int) != (xs.length : Int)) with
      | true =>
        go_wp2
        go_quiet ((go_at_call 22; exact Calls.quiet_of_same (stride_calls _ _)))
        go_wp2
        go_ret
        exact ⟨_, rfl, ((HGr.out).alloc _).drewN _, by intro h; cases h⟩
      | false =>
      have hlen : ys.length = xs.length := by simp at hs2; omega
      have HS := Lib.hid (show (xs.length : Int) = strideN n by simpa using hs)
      have HLn := Lib.hid hlen; clear hlen
      go_wp2
      go_quiet ((go_at_call 22; exact Calls.quiet_of_same (stride_calls _ _)))
      clear hs hs2
      clear h0 h1 h2 n0' n9'
      go_wp2
      go_loopw [41] (fun i w3 => ∃ j : Nat, i = .int .i64 j ∧ j ≤ xs.length ∧ Grow w w3 ∧ w3.cell? ⟨wr.heap.size, 1, none⟩ = some (.slice A xs.length ca) ∧ w3.cell? ⟨wr.heap.size, 2, none⟩ = some (.slice B ys.length cb) ∧
        (∀ (k x : Nat), k < j → xs[k]? = some x → numB x = true) ∧ ∀ (k x : Nat), k < j → ys[k]? = some x → numB x = true) (fun i _ => xs.length - (intOf i).toNat)
      case atStart => exact ⟨0, rfl, Nat.zero_le _, ((HGr.out).alloc _).drewN _, by go_simp, by go_simp, by intro k x h; omega, by intro k x h; omega⟩
      case round =>
        obtain ⟨j, rfl, hj, hg, c1, c2, hx, hy⟩ := hrel
        have HG := Lib.hid hg; clear hg
        have HX := Lib.hid hx; clear hx
        have HY := Lib.hid hy; clear hy
        by_cases hlt : j < xs.length
        case neg =>
          have HGood : Hid (GoodBox n xs ys) := ⟨by have := N0.out; omega, by have := N9.out; omega, HS.out, HLn.out.symm, fun k x h => HX.out k x (by have := (List.getElem?_eq_some_iff.1 h).1; omega) h, fun k x h => HY.out k x (by have := (List.getElem?_eq_some_iff.1 h).1; have := HLn.out; omega) h⟩
          go_wp2
          go_roundw
          case rel => exact ⟨1, by go_num, by omega, HG.out, fun _ => HGood.out⟩
          case measure => simp [intOf]
        case pos =>
          obtain ⟨x, hx⟩ : ∃ x, xs[j]? = some x := ⟨xs[j], by simp [hlt]⟩
          obtain ⟨y, hy⟩ : ∃ y, ys[j]? = some y := ⟨ys[j]'(by have := HLn.out; omega), by simp⟩
          have hlt2 : j < ys.length := by have := HLn.out; omega
          have EX := Lib.hid hx
          have EY := Lib.hid hy
          rcases HA.out with e0 | ⟨b1, o1, rfl, hcell⟩
          · exfalso; subst e0; simp at hlt
          rcases HB.out with e0 | ⟨b2, o2, rfl, hcell2⟩
          · exfalso; subst e0; simp at hlt2
          have hxc := up_cell (hcell j x hx) HG.out
          have hyc := up_cell (hcell2 j y hy) HG.out
          clear hcell hcell2 hx hy
          have arm : True := trivial
          cases ex : numB x with
          | false =>
            go_wp2_with (go_at_call 20; refine (gNumber_calls _ _).mono ?_; rintro e w' ⟨rfl, rfl⟩)
            go_ret
            exact ⟨_, rfl, HG.out, by intro h; cases h⟩
          | true =>
            cases ey : numB y with
            | false =>
              go_wp2_with (go_at_call 20; refine (gNumber_calls _ _).mono ?_; rintro e w' ⟨rfl, rfl⟩)
              go_ret
              exact ⟨_, rfl, HG.out, by intro h; cases h⟩
            | true =>
              go_wp2_with (go_at_call 20; refine (gNumber_calls _ _).mono ?_; rintro e w' ⟨rfl, rfl⟩)
              go_roundw
              case rel =>
                refine ⟨j + 1, by go_num, by omega, HG.out, c1, c2, fun k z hk hz => ?_, fun k z hk hz => ?_⟩
                · rcases Nat.lt_or_ge k j with h | h
                  · exact HX.out k z h hz
                  · obtain rfl : k = j := by omega
                    have := EX.out; rw [hz] at this; cases this; exact ex
                · rcases Nat.lt_or_ge k j with h | h
                  · exact HY.out k z h hz
                  · obtain rfl : k = j := by omega
                    have := EY.out; rw [hz] at this; cases this; exact ey
              case measure => simp [intOf]; omega
end Go.Proofs.Ytegknlnkkoeahaa
