import Derived.Test.YtemobphkgbhhhaaOrdX
import Derived.Test.YtemobphkgbhhhaaSame
import GoSem.Extern.MathDim
import Derived.Laws.Externs
namespace Go.Proofs.Ytemobphkgbhhhaa
open Go.ChangeShapes Go.WideShapes Go.ChangeAt Go.RowKit Go.GrowR
set_option linter.unusedVariables false
set_option linter.unusedSimpArgs false

theorem min_run (x y : Nat) (w : World) : (callFunc 137 #[.float .f64 x, .float .f64 y]).run Try.prog w = .ok (.value (.float .f64 (Fl.pickA true .lt x y))) w := by
  rw [run_callFunc_extern (fn := Try.f137) (e := Extern.MathDim.pick "math.archMin" true .lt) Try.func137 (by kernel_rfl) (by kernel_rfl) (by kernel_rfl) (by rfl)]
  rfl
theorem min_calls (x y : Nat) (w : World) (hx : Fl.isNum x = true) (hy : Fl.isNum y = true) : Calls Try.prog 135 #[.float .f64 x, .float .f64 y] w fun e w' => ∃ z, e = .returned (.float .f64 z) ∧ Fl.isNum z = true ∧ Fl.Xeq z (Fl.fmin x y) ∧ w' = w := by
  have hr := min_run x y
  have HP := Lib.hid (Fl.pick_min hx hy); clear hx hy
  generalize Fl.pickA true .lt x y = z at *
  go_enter Try.func135, Try.ntmps135
  go_wp2
  go_ret
  exact ⟨z, rfl, HP.out.1, HP.out.2, rfl⟩

theorem max_run (x y : Nat) (w : World) : (callFunc 139 #[.float .f64 x, .float .f64 y]).run Try.prog w = .ok (.value (.float .f64 (Fl.pickA false .gt x y))) w := by
  rw [run_callFunc_extern (fn := Try.f139) (e := Extern.MathDim.pick "math.archMax" false .gt) Try.func139 (by kernel_rfl) (by kernel_rfl) (by kernel_rfl) (by rfl)]
  rfl
theorem max_calls (x y : Nat) (w : World) (hx : Fl.isNum x = true) (hy : Fl.isNum y = true) : Calls Try.prog 136 #[.float .f64 x, .float .f64 y] w fun e w' => ∃ z, e = .returned (.float .f64 z) ∧ Fl.isNum z = true ∧ Fl.Xeq z (Fl.fmax x y) ∧ w' = w := by
  have hr := max_run x y
  have HP := Lib.hid (Fl.pick_max hx hy); clear hx hy
  generalize Fl.pickA false .gt x y = z at *
  go_enter Try.func136, Try.ntmps136
  go_wp2
  go_ret
  exact ⟨z, rfl, HP.out.1, HP.out.2, rfl⟩

theorem frombits_run (x : Nat) (w : World) : (callFunc 96 #[.int .u64 x]).run Try.prog w = .ok (.value (.float .f64 x)) w := by
  rw [run_callFunc_extern (fn := Try.f96) (e := Extern.MathFloatBits.float64frombits) Try.func96 (by kernel_rfl) (by kernel_rfl) (by kernel_rfl) (by rfl)]
  rfl
set_option maxRecDepth 1000000 in
theorem inf_pos (w : World) : Calls Try.prog 133 #[.int .i64 1] w fun e w' => e = .returned (.float .f64 9218868437227405312) ∧ w' = w := by
  have hr : ∀ w, (callFunc 96 #[.int .u64 9218868437227405312]).run Try.prog w = .ok (.value (.float .f64 9218868437227405312)) w := fun w => frombits_run 9218868437227405312 w
  go_enter Try.func133, Try.ntmps133
  go_wp2
  go_ret
  exact ⟨rfl, rfl⟩
set_option maxRecDepth 1000000 in
theorem inf_neg (w : World) : Calls Try.prog 133 #[.int .i64 (-1)] w fun e w' => e = .returned (.float .f64 18442240474082181120) ∧ w' = w := by
  have hr : ∀ w, (callFunc 96 #[.int .u64 18442240474082181120]).run Try.prog w = .ok (.value (.float .f64 18442240474082181120)) w := fun w => frombits_run 18442240474082181120 w
  go_enter Try.func133, Try.ntmps133
  go_wp2
  go_ret
  exact ⟨rfl, rfl⟩
end Go.Proofs.Ytemobphkgbhhhaa
