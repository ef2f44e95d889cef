import Derived.Test.YtemobphkgbhhhaaRows
import Derived.Test.YtemobphkgbhhhaaGrow
import Derived.Test.YtemobphkgbhhhaaFlAll
import Derived.Test.YtemobphkgbhhhaaGoodA
import Derived.WalkKit
import Derived.WalkLawsBesides
import Derived.WalkSpells
import Derived.ProofKit
import Derived.Lib.Hide
import Derived.Laws.FloatArith
namespace Go.Proofs.Ytemobphkgbhhhaa
open Go.ChangeShapes Go.WideShapes Go.ChangeAt Go.RowKit Go.GrowR
set_option linter.unusedVariables false
set_option linter.unusedSimpArgs false
theorem run_trunc (x : Nat) (h : ∃ q, Fl.V x q) (w : World) :
    (callFunc 55 #[.float .f64 x]).run Try.prog w = .ok (.value (.float .f64 (Fl.truncBits x))) w := by
  rw [run_callFunc_extern (e := Extern.MathFloor.toIntegral "math.archTrunc" .zero) Try.func55 (by kernel_rfl) (by kernel_rfl) (by kernel_rfl) (by kernel_rfl)]
  obtain ⟨q, s, m, p, hr, _⟩ := h
  have hr' : FloatKind.f64.decode x = .number s m p := hr
  have key : ∀ d, FloatKind.f64.decode x = d → (∃ s m p, d = .number s m p) → (Extern.MathFloor.toIntegral "math.archTrunc" .zero #[.float .f64 x]).run Try.prog w = .ok (.float .f64 (Fl.truncBits x)) w := by
    rintro d hd ⟨s, m, p, rfl⟩
    have : Fl.truncBits x = FloatKind.f64.encode ((Ieee.Datum.number s m p).integral .zero) := by unfold Fl.truncBits; rw [hd]
    rw [this]
    change ((match FloatKind.f64.decode x with
      | .nan s t => _
      | d => (pure (.float .f64 (FloatKind.f64.encode (d.integral .zero))) : Sem Value))).run Try.prog w = _
    rw [hd]; rfl
  rw [key _ hr' ⟨_, _, _, rfl⟩]; rfl

theorem trunc_calls (x : Nat) (w : World) (h : ∃ q, Fl.V x q) :
    Calls Try.prog 29 #[.float .f64 x] w fun e w' => e = .returned (.float .f64 (Fl.truncBits x)) ∧ w' = w := by
  have ht := run_trunc x h
  go_enter Try.func29, Try.ntmps29
  go_wp2
  go_ret
  exact ⟨rfl, rfl⟩

/-- 2^20 as a float -/
theorem isI_20 : Fl.IsI 4697254411347427328 1048576 := by
  refine ⟨false, 4503599627370496, -32, by decide +kernel, ?_⟩
  simp only [Fl.dv, Bool.false_eq_true, if_false]
  rw [show (4503599627370496 : Nat) = 1048576 * 2 ^ 32 from by decide, Rat.natCast_mul, ← Fl.p2_nat, Rat.mul_assoc, ← Fl.p2_add]
  rw [show ((32 : Nat) : Int) + -32 = 0 from by decide, Fl.p2_zero, Rat.mul_one]; rfl
/-- a float that is a whole number -/
def FI (n : Int) (v : Value) (_ : World) : Prop := ∃ z, v = .float .f64 z ∧ Fl.IsI z n
theorem FI.up {n : Int} {v : Value} : Up (FI n v) := fun _ _ h _ => h
theorem fop {P : Program} {op : BinOp} {x y z : Nat} (h : floatBits op .f64 x y = some z) : ∀ (t : TypeId) (w : World), (binOp op t (.float .f64 x) (.float .f64 y)).run P w = .ok (.float .f64 z) w := fun t w => run_float_arith w op t .f64 x y z h
theorem _root_.Fl.eqB {x y : Nat} {n : Int} (hx : Fl.IsI x n) (hy : Fl.IsI y n) : (FloatKind.f64.format.order x y == some .eq) = true := by rw [Fl.eq_V hx hy]; simp
theorem mul_bound {a b m n : Int} (h1 : -m ≤ a) (h2 : a ≤ m) (h3 : -n ≤ b) (h4 : b ≤ n) : -(m * n) ≤ a * b ∧ a * b ≤ m * n := by
  have hm : 0 ≤ m := by omega
  have hn : 0 ≤ n := by omega
  have h5 : (a * b).natAbs ≤ (m * n).natAbs := by
    rw [Int.natAbs_mul, Int.natAbs_mul]
    exact Nat.mul_le_mul (by omega) (by omega)
  have h6 : 0 ≤ m * n := Int.mul_nonneg hm hn
  omega
theorem wrap_of {n : Int} (h1 : -9223372036854775808 ≤ n) (h2 : n ≤ 9223372036854775807) : IntKind.i64.wrap n = n := IntWalk.i64_in n ⟨h1, h2⟩
theorem cvI {x : Nat} {n : Int} (h : Fl.IsI x n) (h1 : -9223372036854775808 ≤ n) (h2 : n ≤ 9223372036854775807) : ∀ w, (convert 36 3 (.float .f64 x)).run Try.prog w = .ok (.int .i64 n) w := fun w =>
  run_convert_float_int w 36 3 .f64 .i64 x n (by kernel_rfl) Try.underlying3 (Fl.floatToInt_I h .i64 ⟨h1, h2⟩)

noncomputable abbrev w20 (x : Nat) : Bool := Fl.wholeB 1048576 x
theorem gWhole_calls (x : Nat) (w : World) : Calls Try.prog 11 #[.float .f64 x] w fun e w' => e = .returned (.bool (w20 x)) ∧ w' = w := by
  have hneg : Op.negFloat .f64 4697254411347427328 = 13920626448202203136 := by decide +kernel
  have ht := Fl.whole_tests (x := x) isI_20 (by decide) (by decide)
  rw [hneg] at ht
  cases hw : w20 x with
  | true =>
    obtain ⟨n, hn, _⟩ := Fl.wholeB_true hw
    rw [show Fl.wholeB 1048576 x = true from hw] at ht
    simp only [Bool.and_eq_true, Bool.not_eq_true'] at ht
    obtain ⟨t1, t2, t3⟩ := ht
    have t3' : (FloatKind.f64.format.order x (Fl.truncBits x) == some .eq) = true := by simpa [bne] using t3
    have HV := Lib.hid (show ∃ q, Fl.V x q from ⟨_, hn⟩)
    clear hn hw t3 hneg
    go_enter Try.func11, Try.ntmps11
    go_wp2_with (go_at_call 29; refine (trunc_calls _ _ HV.out).mono ?_; rintro e w' ⟨rfl, rfl⟩)
    go_ret
    exact ⟨rfl, rfl⟩
  | false =>
    rw [show Fl.wholeB 1048576 x = false from hw] at ht
    cases t1 : (FloatKind.f64.format.order x 13920626448202203136 == some .gt || FloatKind.f64.format.order x 13920626448202203136 == some .eq) with
    | false =>
      clear ht hw hneg
      go_enter Try.func11, Try.ntmps11
      go_wp2
      go_ret
      exact ⟨rfl, rfl⟩
    | true =>
      cases t2 : (FloatKind.f64.format.order x 4697254411347427328 == some .lt || FloatKind.f64.format.order x 4697254411347427328 == some .eq) with
      | false =>
        clear ht hw hneg
        go_enter Try.func11, Try.ntmps11
        go_wp2
        go_ret
        exact ⟨rfl, rfl⟩
      | true =>
        have HV : Hid (∃ q, Fl.V x q) := Fl.finite_of_between (Fl.neg_I isI_20 (by decide)) isI_20 (by rw [hneg]; exact t1) t2
        rw [t1, t2] at ht
        have t3 : (FloatKind.f64.format.order x (Fl.truncBits x) == some .eq) = false := by simpa [bne] using ht
        clear ht hw hneg
        go_enter Try.func11, Try.ntmps11
        go_wp2_with (go_at_call 29; refine (trunc_calls _ _ HV.out).mono ?_; rintro e w' ⟨rfl, rfl⟩)
        go_ret
        exact ⟨rfl, rfl⟩
theorem gWholeB (x : Nat) (b : Bool) (w : World) (h : w20 x = b) : Calls Try.prog 11 #[.float .f64 x] w fun e w' => e = .returned (.bool b) ∧ w' = w := by
  subst h; exact gWhole_calls x w
theorem wall_take {xs : List Nat} {P : Nat → Bool} {k x : Nat} (hx : xs[k]? = some x) : (xs.take (k + 1)).all P = ((xs.take k).all P && P x) := by
  rw [List.take_add_one, hx, List.all_append]; simp
theorem wall_false {xs : List Nat} {P : Nat → Bool} {k x : Nat} (hx : xs[k]? = some x) (h : P x = false) : xs.all P = false := by
  rw [List.all_eq_false]
  exact ⟨x, List.mem_of_getElem? hx, by rw [h]; simp⟩
def WholeP (r : Bool) (w : World) (e : Ending) (w' : World) : Prop := e = .returned (.bool r) ∧ Grow w w'
set_option maxHeartbeats 2000000 in
theorem eachWhole_calls (k l r : Int) (u : Value) (B E : Option Addr) (m d q e : Nat) (xs : List Nat) (w : World) (hu : FSl u xs w) (hl : xs.length ≤ 1099511627776) :
    Calls Try.prog 10 #[GeoE k l r u (.slice B m d) (.slice E q e), .func (Fn.func 11) #[] #[]] w (WholeP (xs.all w20) w) := by
  have HU := Lib.hid hu
  obtain ⟨A, c, rfl, -, hA⟩ := hu
  have HA := Lib.hid hA; clear hA
  go_enter Try.func10, Try.ntmps10
  go_wp2
  go_loop [12] (fun i => ∃ k : Nat, k ≤ xs.length ∧ i = .int .i64 k ∧ (xs.take k).all w20 = true) (fun i => xs.length - (intOf i).toNat)
  case atStart => exact ⟨0, Nat.zero_le _, rfl, rfl⟩
  case round =>
    obtain ⟨j, hj, rfl, hall⟩ := hrel
    have HL := Lib.hid hall; clear hall
    by_cases hlt : j < xs.length
    case neg =>
      have hje : j = xs.length := by omega
      have HJ := Lib.hid hje; clear hje
      go_wp2
      go_loop [24] (fun i => i = .int .i64 0) (fun _ => 0)
      case atStart => rfl
      case round =>
        subst hrel
        go_wp2
        go_ret
        refine ⟨?_, (Grow.refl w).alloc _⟩
        have := HL.out
        rw [List.take_of_length_le (by have := HJ.out; omega)] at this
        rw [this]; rfl
    case pos =>
      obtain ⟨x, hx⟩ : ∃ x, xs[j]? = some x := ⟨xs[j], by simp [hlt]⟩
      rcases HA.out with h0 | ⟨b1, o1, rfl, hcell⟩
      · exfalso; subst h0; simp at hlt
      have hxc := up_cell (hcell j x hx) ((Grow.refl w).alloc (Obj.cells #[.int .i64 k, .int .i64 l, .int .i64 r, .slice (some ⟨b1, o1, none⟩) xs.length c, .slice B m d, .slice E q e, .slice none 0 0] 28))
      have HX := Lib.hid hx
      clear hcell hx
      cases hb : w20 x
      all_goals
        have HB := Lib.hid hb; clear hb
        go_wp2_with (go_at_call 11; refine (gWholeB _ _ _ HB.out).mono ?_; rintro e w' ⟨rfl, rfl⟩)
      · go_ret
        exact ⟨by rw [wall_false HX.out HB.out]; rfl, (Grow.refl w).alloc _⟩
      · go_round
        case rel => exact ⟨j + 1, by omega, by go_num, by rw [wall_take HX.out, HL.out, HB.out]; rfl⟩
        case measure => simp [intOf]; omega
end Go.Proofs.Ytemobphkgbhhhaa
