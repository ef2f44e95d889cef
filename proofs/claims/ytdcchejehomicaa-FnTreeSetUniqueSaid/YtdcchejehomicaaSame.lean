import Derived.Test.YtdcchejehomicaaRows
import Derived.Test.YtdcchejehomicaaOwn
import Derived.Deep.QuietTactic
import Derived.BigQuiet
import Derived.WalkKit
import Derived.WalkLawsBesides
import Derived.WalkSpells
import Derived.ProofKit
import Derived.Lib.Hide
import Derived.Laws.Externs
namespace Go.Proofs.Ytdcchejehomicaa
open Go.ChangeShapes Go.WideShapes Go.ChangeAt Go.RowKit Go.GrowR
set_option linter.unusedVariables false
set_option linter.unusedSimpArgs false
theorem infoF : (Try.prog.info? 52).map (fun i => (i.zero, i.size, i.bytes)) = some (some (.float .f64 0), 1, 8) := by kernel_rfl
theorem undF : Try.prog.underlying 22 = some (.slice 52) := by kernel_rfl
theorem run_bits (x : Nat) (w : World) : (callFunc 21 #[.float .f64 x]).run Try.prog w = .ok (.value (.int .u64 x)) w := by
  rw [run_callFunc_extern (fn := Try.f21) (e := Extern.MathFloatBits.float64bits) Try.func21 (by kernel_rfl) (by kernel_rfl) (by kernel_rfl) (by rfl)]
  rfl
theorem take_ne {α : Type} {xs ys : List α} {k : Nat} (h : xs.take k ≠ ys.take k) : xs ≠ ys := fun e => h (by rw [e])
theorem take_succ_eq {α : Type} {xs ys : List α} {k : Nat} {x : α} (h : xs.take k = ys.take k) (hx : xs[k]? = some x) (hy : ys[k]? = some x) : xs.take (k + 1) = ys.take (k + 1) := by
  rw [List.take_add_one, List.take_add_one, h, hx, hy]
set_option maxHeartbeats 1000000 in
theorem same_calls (u v : Value) (xs ys : List Nat) (w : World) (hu : FSl u xs w) (hv : FSl v ys w) (hl : xs.length ≤ 1099511627776) (hl2 : ys.length ≤ 1099511627776) :
    Calls Try.prog 8 #[u, v] w fun e w' => e = .returned (.bool (decide (xs = ys))) ∧ Grow w w' := by
  obtain ⟨A, c, rfl, hc, hA⟩ := hu
  obtain ⟨B, d, rfl, hd, hB⟩ := hv
  have HA := Lib.hid hA; clear hA
  have HB := Lib.hid hB; clear hB
  have hbits := run_bits
  by_cases hll : xs.length = ys.length
  case neg =>
    have HD : Hid (decide (xs = ys) = false) := by
      show decide _ = _
      simp only [decide_eq_false_iff_not]
      intro e; exact hll (by rw [e])
    have hne : ((xs.length : Int) != (ys.length : Int)) = true := by simp; omega
    clear hll
    go_enter Try.func8, Try.ntmps8
    go_wp2
    go_ret
    exact ⟨by rw [HD.out]; rfl, Grow.refl _⟩
  have hne : ((xs.length : Int) != (ys.length : Int)) = false := by simp; omega
  have HL := Lib.hid hll; clear hll
  go_enter Try.func8, Try.ntmps8
  go_wp2
  go_loopw [14] (fun i wr => ∃ j : Nat, i = .int .i64 j ∧ j ≤ xs.length ∧ Grow w wr ∧ xs.take j = ys.take j) (fun i _ => xs.length - (intOf i).toNat)
  case atStart => exact ⟨0, rfl, Nat.zero_le _, Grow.refl _, rfl⟩
  case round =>
    obtain ⟨j, rfl, hj, hg, heq⟩ := hrel
    have HE := Lib.hid heq; clear heq
    have HG := Lib.hid hg; clear hg
    by_cases hlt : j < xs.length
    case neg =>
      have HD : Hid (decide (xs = ys) = true) := by
        show decide _ = _
        have h := HE.out; have h2 := HL.out
        rw [List.take_of_length_le (by omega), List.take_of_length_le (by omega)] at h
        simp [h]
      go_wp2
      go_ret
      exact ⟨by rw [HD.out]; rfl, HG.out⟩
    case pos =>
      obtain ⟨x, hx⟩ : ∃ x, xs[j]? = some x := ⟨xs[j], by simp [hlt]⟩
      obtain ⟨y, hy⟩ : ∃ y, ys[j]? = some y := ⟨ys[j]'(by have := HL.out; omega), by simp⟩
      have hlt2 : (j : Int) < ys.length := by have := HL.out; omega
      have HX := Lib.hid hx
      have HY := Lib.hid hy
      rcases HA.out with h0 | ⟨b1, o1, rfl, hcell⟩
      · exfalso; subst h0; simp at hlt
      rcases HB.out with h0 | ⟨b2, o2, rfl, hcell2⟩
      · exfalso; subst h0; have := HL.out; simp at this; simp [this] at hlt
      have hxc := up_cell (hcell j x hx) HG.out
      have hyc := up_cell (hcell2 j y hy) HG.out
      clear hcell hcell2 hx hy
      by_cases hxy : x = y
      case neg =>
        have HD : Hid (decide (xs = ys) = false) := by
          show decide _ = _
          simp only [decide_eq_false_iff_not]
          intro e; apply hxy
          have h1 := HX.out; have h2 := HY.out
          rw [e] at h1; rw [h1] at h2; exact Option.some.inj h2
        have hb : ((x : Int) != (y : Int)) = true := by simp; omega
        clear hxy
        go_wp2
        go_quiet (fail)
        go_wp2
        go_ret
        exact ⟨by rw [HD.out]; rfl, by first | exact HG.out | exact HG.out.drewN _⟩
      case pos =>
        subst hxy
        go_wp2
        go_quiet (fail)
        go_wp2
        go_round
        case rel => exact ⟨j + 1, by go_num, by omega, by first | exact HG.out | exact HG.out.drewN _, take_succ_eq HE.out HX.out HY.out⟩
        case measure => simp [intOf]; omega
end Go.Proofs.Ytdcchejehomicaa
