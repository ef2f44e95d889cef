import Derived.Test.YtcpdhkbmfgphpaaRows
import Derived.Test.YtcpdhkbmfgphpaaGrow
import Derived.Test.YtcpdhkbmfgphpaaFlAll
import Derived.Test.YtcpdhkbmfgphpaaMem
import Derived.WalkKit
import Derived.WalkLawsBesides
import Derived.WalkSpells
import Derived.ProofKit
import Derived.Lib.Hide
import Derived.Laws.FloatArith
namespace Go.Proofs.Ytcpdhkbmfgphpaa
open Go.ChangeShapes Go.WideShapes Go.ChangeAt Go.RowKit Go.GrowR
set_option linter.unusedVariables false
set_option linter.unusedSimpArgs false

theorem run_trunc (x : Nat) (h : ∃ q, Fl.V x q) (w : World) :
    (callFunc 55 #[.float .f64 x]).run Try.prog w = .ok (.value (.float .f64 (Fl.truncBits x))) w := by
  rw [run_callFunc_extern (e := Extern.MathFloor.toIntegral "math.archTrunc" .zero) Try.func55 (by kernel_rfl) (by kernel_rfl) (by kernel_rfl) (by kernel_rfl)]
  obtain ⟨q, s, m, p, hr, _⟩ := h
  have hr' : FloatKind.f64.decode x = .number s m p := hr
  have key : ∀ d, FloatKind.f64.decode x = d → (∃ s m p, d = .number s m p) → (Extern.MathFloor.toIntegral "math.archTrunc" .zero #[.float .f64 x]).run Try.prog w = .ok (.float .f64 (Fl.truncBits x)) w := by
    rintro d hd ⟨s, m, p, rfl⟩
    have : Fl.truncBits x = FloatKind.f64.encode ((Ieee.Datum.number s m p).integral .zero) := by unfold Fl.truncBits; rw [hd]
    rw [this]
    change ((match FloatKind.f64.decode x with
      | .nan s t => _
      | d => (pure (.float .f64 (FloatKind.f64.encode (d.integral .zero))) : Sem Value))).run Try.prog w = _
    rw [hd]; rfl
  rw [key _ hr' ⟨_, _, _, rfl⟩]; rfl

theorem trunc_calls (x : Nat) (w : World) (h : ∃ q, Fl.V x q) :
    Calls Try.prog 45 #[.float .f64 x] w fun e w' => e = .returned (.float .f64 (Fl.truncBits x)) ∧ w' = w := by
  have ht := run_trunc x h
  go_enter Try.func45, Try.ntmps45
  go_wp2
  go_ret
  exact ⟨rfl, rfl⟩

noncomputable def rowB (m : Int) (dims : Nat) (p : List Nat) : Bool := p.length == dims && p.all (Fl.wholeB m)
noncomputable def gridB (m : Int) (dims : Nat) (xss : List (List Nat)) : Bool := xss.all (rowB m dims) && decide (0 < dims)

theorem all_take_succ {α : Type} (l : List α) (f : α → Bool) (k : Nat) (x : α) (hx : l[k]? = some x) : (l.take (k + 1)).all f = ((l.take k).all f && f x) := by
  rw [List.take_add_one, hx]; simp
theorem all_false_of {α : Type} (l : List α) (f : α → Bool) (k : Nat) (x : α) (hx : l[k]? = some x) (hf : f x = false) : l.all f = false := by
  rw [List.all_eq_false]; exact ⟨x, List.mem_of_getElem? hx, by simp [hf]⟩

set_option maxHeartbeats 2000000 in
theorem grid_calls (v : Value) (xss : List (List Nat)) (dims : Nat) (mb : Nat) (m : Int) (w : World) (hv : FSSl v xss w) (hm : Fl.IsI mb m) (hb : mb < 2 ^ 64) (h53 : m ≤ 2 ^ 53)
    (hl : xss.length ≤ 1099511627776) (hl2 : ∀ p ∈ xss, p.length ≤ 1099511627776) (hd : dims ≤ 1099511627776) :
    Calls Try.prog 26 #[v, .int .i64 dims, .float .f64 mb] w fun e w' => e = .returned (.bool (gridB m dims xss)) ∧ w' = w := by
  obtain ⟨A, c, rfl, hc, hA⟩ := hv
  have HA := Lib.hid hA; clear hA
  have HM := Lib.hid hm; clear hm
  have HL2 := Lib.hid hl2; clear hl2
  go_enter Try.func26, Try.ntmps26
  go_wp2
  go_loop [13] (fun i => ∃ k : Nat, k ≤ xss.length ∧ i = .int .i64 k ∧ (xss.take k).all (rowB m dims) = true) (fun i => xss.length - (intOf i).toNat)
  case atStart => exact ⟨0, Nat.zero_le _, rfl, rfl⟩
  case round =>
    obtain ⟨k, hk, rfl, hall⟩ := hrel
    have HALL := Lib.hid hall; clear hall
    by_cases hlt : k < xss.length
    case neg =>
      have HG : Hid (gridB m dims xss = decide (0 < dims)) := by
        have := HALL.out
        rw [List.take_of_length_le (by omega)] at this
        show gridB m dims xss = _
        unfold gridB; rw [this]; rfl
      go_wp2
      go_ret
      exact ⟨by rw [HG.out]; rfl, rfl⟩
    case pos =>
      obtain ⟨p, hp⟩ : ∃ p, xss[k]? = some p := ⟨xss[k], by simp [hlt]⟩
      have HP := Lib.hid hp
      rcases HA.out with h0 | ⟨b, o, rfl, hcell⟩
      · exfalso; subst h0; simp at hlt
      obtain ⟨u, hu, hfs⟩ := hcell k p hp
      clear hcell
      have hpl : p.length ≤ 1099511627776 := HL2.out p (List.mem_of_getElem? hp)
      obtain ⟨A1, c1, rfl, hc1, hA1⟩ := hfs
      have HA1 := Lib.hid hA1; clear hA1 hp HA
      by_cases hpd : p.length = dims
      case neg =>
        have HG : Hid (gridB m dims xss = false) := by
          show gridB m dims xss = _
          unfold gridB
          rw [all_false_of _ _ k p HP.out (by unfold rowB; simp [hpd])]; rfl
        have hne : ((p.length : Int) != (dims : Int)) = true := by simp; omega
        clear hpd
        go_wp2
        go_ret
        exact ⟨by rw [HG.out]; rfl, rfl⟩
      case pos =>
        have hne : ((p.length : Int) != (dims : Int)) = false := by simp; omega
        have HPD := Lib.hid hpd; clear hpd
        go_wp2
        go_loop [23] (fun i => ∃ j : Nat, j ≤ p.length ∧ i = .int .i64 j ∧ (p.take j).all (Fl.wholeB m) = true) (fun i => p.length - (intOf i).toNat)
        case atStart => exact ⟨0, Nat.zero_le _, rfl, rfl⟩
        case round =>
          obtain ⟨j, hj, rfl, hall⟩ := hrel
          have HJ := Lib.hid hall; clear hall
          by_cases hlt2 : j < p.length
          case neg =>
            have hr : (xss.take (k + 1)).all (rowB m dims) = true := by
              have := HJ.out
              rw [List.take_of_length_le (by omega)] at this
              rw [all_take_succ _ _ _ _ HP.out, HALL.out]; unfold rowB; simp [this, HPD.out]
            have HR := Lib.hid hr; clear hr
            go_wp2
            go_round
            case rel => exact ⟨k + 1, by omega, by go_num, HR.out⟩
            case measure => simp [intOf]; omega
          case pos =>
            obtain ⟨x, hx⟩ : ∃ x, p[j]? = some x := ⟨p[j], by simp [hlt2]⟩
            have HX := Lib.hid hx
            rcases HA1.out with h0 | ⟨b1, o1, rfl, hcell⟩
            · exfalso; subst h0; simp at hlt2
            have hxc := hcell j x hx
            clear hcell hx
            have ht := Fl.whole_tests (x := x) HM.out hb h53
            have HT := Lib.hid ht; clear ht
            have HQ : Hid ((Fl.wholeB m x = true → ∃ q, Fl.V x q)) := fun h => let ⟨n, hn, _⟩ := Fl.wholeB_true h; ⟨_, hn⟩
            have HF : Hid (Fl.wholeB m x = false → gridB m dims xss = false) := by
              intro h
              unfold gridB
              rw [all_false_of _ _ k p HP.out (by unfold rowB; rw [all_false_of p _ j x HX.out h]; simp)]; rfl
            cases hw : Fl.wholeB m x with
            | true =>
              have hq := HQ.out hw
              have hts := HT.out
              rw [hw] at hts
              simp only [Bool.and_eq_true, Bool.not_eq_true'] at hts
              obtain ⟨t1, t2, t3⟩ := hts
              have HJ2 : Hid ((p.take (j + 1)).all (Fl.wholeB m) = true) := by
                show _ = _
                rw [all_take_succ _ _ _ _ HX.out, HJ.out, hw]; rfl
              have HV := Lib.hid hq; clear hq hw
              go_wp2_with (go_at_call 45; refine (trunc_calls _ _ HV.out).mono ?_; rintro e w' ⟨rfl, rfl⟩)
              go_round
              case rel => exact ⟨j + 1, by omega, by go_num, HJ2.out⟩
              case measure => simp [intOf]; omega
            | false =>
              have HG : Hid (gridB m dims xss = false) := HF.out hw
              have hts := HT.out
              rw [hw] at hts
              clear hw
              cases t1 : (FloatKind.f64.format.order x (Op.negFloat .f64 mb) == some .gt || FloatKind.f64.format.order x (Op.negFloat .f64 mb) == some .eq) with
              | false =>
                clear hts
                go_wp2
                go_ret
                exact ⟨by rw [HG.out]; rfl, rfl⟩
              | true =>
                cases t2 : (FloatKind.f64.format.order x mb == some .lt || FloatKind.f64.format.order x mb == some .eq) with
                | false =>
                  clear hts
                  go_wp2
                  go_ret
                  exact ⟨by rw [HG.out]; rfl, rfl⟩
                | true =>
                  have HV : Hid (∃ q, Fl.V x q) := Fl.finite_of_between (Fl.neg_I HM.out hb) HM.out t1 t2
                  rw [t1, t2] at hts
                  have t3 : (FloatKind.f64.format.order x (Fl.truncBits x) != some .eq) = true := by simpa using hts
                  clear hts
                  go_wp2_with (go_at_call 45; refine (trunc_calls _ _ HV.out).mono ?_; rintro e w' ⟨rfl, rfl⟩)
                  go_ret
                  exact ⟨by rw [HG.out]; rfl, rfl⟩
/-- 2^20 as a float -/
theorem isI_20 : Fl.IsI 4697254411347427328 1048576 := by
  refine ⟨false, 4503599627370496, -32, by decide +kernel, ?_⟩
  simp only [Fl.dv, Bool.false_eq_true, if_false]
  rw [show (4503599627370496 : Nat) = 1048576 * 2 ^ 32 from by decide, Rat.natCast_mul, ← Fl.p2_nat, Rat.mul_assoc, ← Fl.p2_add]
  rw [show ((32 : Nat) : Int) + -32 = 0 from by decide, Fl.p2_zero, Rat.mul_one]; rfl
/-- a float that is a whole number -/
def FI (n : Int) (v : Value) (_ : World) : Prop := ∃ z, v = .float .f64 z ∧ Fl.IsI z n
theorem FI.up {n : Int} {v : Value} : Up (FI n v) := fun _ _ h _ => h
theorem fop {P : Program} {op : BinOp} {x y z : Nat} (h : floatBits op .f64 x y = some z) : ∀ (t : TypeId) (w : World), (binOp op t (.float .f64 x) (.float .f64 y)).run P w = .ok (.float .f64 z) w := fun t w => run_float_arith w op t .f64 x y z h
theorem _root_.Fl.eqB {x y : Nat} {n : Int} (hx : Fl.IsI x n) (hy : Fl.IsI y n) : (FloatKind.f64.format.order x y == some .eq) = true := by rw [Fl.eq_V hx hy]; simp
theorem mul_bound {a b m n : Int} (h1 : -m ≤ a) (h2 : a ≤ m) (h3 : -n ≤ b) (h4 : b ≤ n) : -(m * n) ≤ a * b ∧ a * b ≤ m * n := by
  have hm : 0 ≤ m := by omega
  have hn : 0 ≤ n := by omega
  have h5 : (a * b).natAbs ≤ (m * n).natAbs := by
    rw [Int.natAbs_mul, Int.natAbs_mul]
    exact Nat.mul_le_mul (by omega) (by omega)
  have h6 : 0 ≤ m * n := Int.mul_nonneg hm hn
  omega
theorem wrap_of {n : Int} (h1 : -9223372036854775808 ≤ n) (h2 : n ≤ 9223372036854775807) : IntKind.i64.wrap n = n := IntWalk.i64_in n ⟨h1, h2⟩
theorem cvI {x : Nat} {n : Int} (h : Fl.IsI x n) (h1 : -9223372036854775808 ≤ n) (h2 : n ≤ 9223372036854775807) : ∀ w, (convert 34 3 (.float .f64 x)).run Try.prog w = .ok (.int .i64 n) w := fun w =>
  run_convert_float_int w 34 3 .f64 .i64 x n (by kernel_rfl) Try.underlying3 (Fl.floatToInt_I h .i64 ⟨h1, h2⟩)
end Go.Proofs.Ytcpdhkbmfgphpaa
