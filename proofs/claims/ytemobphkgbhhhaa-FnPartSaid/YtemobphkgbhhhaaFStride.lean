import Derived.Test.YtemobphkgbhhhaaStrideN
namespace Go.Proofs.Ytemobphkgbhhhaa
open Go.ChangeShapes Go.WideShapes Go.ChangeAt Go.RowKit Go.GrowR
set_option linter.unusedVariables false
set_option linter.unusedSimpArgs false
theorem fStride_in (n : Int) (w : World) (h1 : 2 ≤ n) (h2 : n ≤ 9) : Calls Try.prog 26 #[.int .i64 n] w fun e w' => e = .returned (.bool true) ∧ w' = w := by
  go_enter Try.func26, Try.ntmps26
  go_wp2
  go_ret
  exact ⟨rfl, rfl⟩
theorem fStride_out (n : Int) (w : World) (h : ¬ (2 ≤ n ∧ n ≤ 9)) : Calls Try.prog 26 #[.int .i64 n] w fun e w' => e = .returned (.bool false) ∧ w' = w := by
  by_cases h1 : 2 ≤ n
  · have h2 : ¬ n ≤ 9 := fun h2 => h ⟨h1, h2⟩
    clear h
    go_enter Try.func26, Try.ntmps26
    go_wp2
    go_ret
    exact ⟨rfl, rfl⟩
  · clear h
    go_enter Try.func26, Try.ntmps26
    go_wp2
    go_ret
    exact ⟨rfl, rfl⟩
def layN (n : Int) : Int := if n = 2 then 1 else if n = 3 then 2 else n
theorem stride_lay (n : Int) (h1 : 2 ≤ n) : strideN (layN n) = n := by
  unfold layN strideN
  repeat' split
  all_goals omega
theorem fLayout_calls (n : Int) (w : World) (h1 : 2 ≤ n) : Calls Try.prog 27 #[.int .i64 n] w fun e w' => e = .returned (.int .i64 (layN n)) ∧ w' = w := by
  by_cases h2 : n = 2
  · subst h2
    go_enter Try.func27, Try.ntmps27
    go_wp2
    go_ret
    exact ⟨rfl, rfl⟩
  by_cases h3 : n = 3
  · subst h3
    go_enter Try.func27, Try.ntmps27
    go_wp2
    go_ret
    exact ⟨rfl, rfl⟩
  have R : Hid (layN n = n) := by show _ = _; simp [layN, h2, h3]
  have e2 : (n == 2) = false := by rw [beq_eq_false_iff_ne]; exact h2
  have e3 : (n == 3) = false := by rw [beq_eq_false_iff_ne]; exact h3
  clear h2 h3
  go_enter Try.func27, Try.ntmps27
  go_wp2
  go_ret
  exact ⟨by rw [R.out]; rfl, rfl⟩
end Go.Proofs.Ytemobphkgbhhhaa
