import Derived.Test.YtcpdhkbmfgphpaaKdF
import Derived.Test.YtcpdhkbmfgphpaaMM
import Derived.Laws.FloatArith
namespace Go.Proofs.Ytcpdhkbmfgphpaa
open Go.ChangeShapes Go.WideShapes Go.ChangeAt Go.RowKit Go.GrowR
set_option linter.unusedVariables false
set_option linter.unusedSimpArgs false
def finB (x : Nat) : Bool := match Fl.D.read x with
  | .number _ _ _ => true
  | _ => false
theorem finB_true {x : Nat} (h : finB x = true) : ∃ q, Fl.V x q := by
  unfold finB at h
  split at h
  · next s m p hr => exact ⟨_, s, m, p, hr, rfl⟩
  · cases h
theorem isI_0 : Fl.IsI 0 0 := ⟨false, 0, -1074, by decide +kernel, by simp [Fl.dv]⟩
theorem nan_read (t : Nat) : ∃ s f, Fl.D.read ((t % 2) * 2 ^ 63 + 0x7ff0000000000000 + 1 + (t / 2) % (2 ^ 52 - 1)) = .nan s f := by
  have h1 : ((t % 2) * 2 ^ 63 + 0x7ff0000000000000 + 1 + (t / 2) % (2 ^ 52 - 1)) % 2 ^ 63 = 0x7ff0000000000000 + 1 + (t / 2) % (2 ^ 52 - 1) := by omega
  unfold Ieee.Format.read
  rw [Fl.D_sw, Fl.D_inf, Fl.D_bin]
  simp only [h1]
  rw [if_neg (by omega), if_neg (by omega), if_neg (by omega)]
  exact ⟨_, _, rfl⟩
theorem sub_self (x : Nat) (w : World) : ∃ z w', (∀ t, (binOp .sub t (.float .f64 x) (.float .f64 x)).run Try.prog w = .ok (.float .f64 z) w') ∧ ((FloatKind.f64.format.order z 0 == some .eq) = finB x) ∧ Grow w w' := by
  have hD : FloatKind.f64.format = Fl.D := rfl
  cases hf : finB x with
  | true =>
    obtain ⟨q, hx⟩ := finB_true hf
    obtain ⟨z, hz, hr⟩ := Fl.sub_V hx hx
    have h0 : q - q = ((0 : Int) : Rat) := by grind
    rw [h0] at hr
    have hi := Fl.RN_int hr (by decide)
    exact ⟨z, w, fun t => run_float_arith w .sub t .f64 x x z hz, by rw [Fl.eq_V hi isI_0]; simp, Grow.refl w⟩
  | false =>
    have hn : Fl.D.sub x x = none := by
      unfold finB at hf
      unfold Ieee.Format.sub
      split at hf
      · cases hf
      · next h => 
        cases hr : Fl.D.read x with
        | number s m p => exact absurd hr (h s m p)
        | infinity s => cases s <;> rfl
        | nan s f => rfl
    obtain ⟨s, f, hz⟩ := nan_read (w.tape w.drawn (.nanBits .f64 x x))
    refine ⟨(w.tape w.drawn (.nanBits .f64 x x)) % 2 * 2 ^ 63 + 0x7ff0000000000000 + 1 + ((w.tape w.drawn (.nanBits .f64 x x)) / 2) % (2 ^ 52 - 1), w.drew, fun t => ?_, ?_, (Grow.refl w).drew⟩
    · simp only [binOp, Op.floatArith, hD, hn, Sem.run_bind, Sem.run_pure, Result.andThen_ok, run_choose_drew]
      rfl
    · rw [hD]
      unfold Ieee.Format.order
      rw [hz]
      rfl
theorem finiteK_calls (x : Nat) (w : World) : Calls Try.prog 22 #[.float .f64 x] w fun e w' => e = .returned (.bool (finB x)) ∧ Grow w w' := by
  obtain ⟨z, w1, hr, he, hg⟩ := sub_self x w
  have HE := Lib.hid he; clear he
  have HG := Lib.hid hg; clear hg
  go_enter Try.func22, Try.ntmps22
  go_wp2
  go_ret
  exact ⟨by rw [HE.out]; rfl, HG.out⟩
end Go.Proofs.Ytcpdhkbmfgphpaa
