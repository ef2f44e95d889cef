import Derived.Test.YtdcchejehomicaaSame
import Derived.Test.YtdcchejehomicaaGrow
import Derived.OwnWalk
import Derived.ArgAppend
import Derived.Laws.CopyOwn
namespace Go.Proofs.Ytdcchejehomicaa
open Go.ChangeShapes Go.WideShapes Go.ChangeAt Go.RowKit Go.GrowR
set_option linter.unusedVariables false
set_option linter.unusedSimpArgs false
set_option maxHeartbeats 1000000 in
/-- a copy of a slice of floats -/
theorem floats_calls44 (u : Value) (xs : List Nat) (w : World) (hu : FSl u xs w) (hl : xs.length ≤ 17592186044416) :
    Calls Try.prog 13 #[u] w fun e w' => ∃ v, e = .returned v ∧ Grow w w' ∧ VOwn 52 w.heap.size v (xs.map (.float .f64)) w' := by
  obtain ⟨i0, hi, hz0, hz1, hz2⟩ := info_parts infoF
  have HU := Lib.hid hu; clear hu
  go_enter Try.func13, Try.ntmps13
  go_wp2_with (at_builtin; refine wpList_append_vsl rfl _ _ 22 rfl w.heap.size 52 i0 (.float .f64 0) 8 undF hi hz0 hz1 hz2 rfl rfl VOwn.nil rfl HU.out.v (fl_one _) (by simp [maxLen]; omega) (by simp; omega) (Nat.le_refl _) ?_; intro v' w' hown hgrow hwhere)
  go_ret
  exact ⟨_, rfl, grow_of_grown hgrow, by simpa using hown⟩
theorem floats_calls (u : Value) (xs : List Nat) (w : World) (hu : FSl u xs w) (hl : xs.length ≤ 1099511627776) :
    Calls Try.prog 13 #[u] w fun e w' => ∃ v, e = .returned v ∧ Grow w w' ∧ VOwn 52 w.heap.size v (xs.map (.float .f64)) w' := floats_calls44 u xs w hu (by omega)
end Go.Proofs.Ytdcchejehomicaa
