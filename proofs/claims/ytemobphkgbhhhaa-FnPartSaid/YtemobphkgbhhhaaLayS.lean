import Derived.Test.YtemobphkgbhhhaaStrideN
namespace Go.Proofs.Ytemobphkgbhhhaa
open Go.ChangeShapes Go.WideShapes Go.ChangeAt Go.RowKit Go.GrowR
set_option linter.unusedVariables false
set_option linter.unusedSimpArgs false
theorem layStride (lay : Int) (s : Nat) (w : World) (h1 : 1 ≤ lay) (h9 : lay ≤ 9) (hs : strideN lay = s) : Calls Try.prog 91 #[.int .i64 lay] w fun e w' => e = .returned (.int .i64 s) ∧ w' = w := by
  have HS := Lib.hid hs; clear hs
  by_cases e1 : lay = 1
  · subst e1
    have hs := HS.out
    obtain rfl : s = 2 := by have : strideN 1 = 2 := rfl
                             omega
    clear hs
    go_enter Try.func91, Try.ntmps91
    go_wp2
    go_ret
    exact ⟨rfl, rfl⟩
  by_cases e2 : lay = 2
  · subst e2
    have hs := HS.out
    obtain rfl : s = 3 := by have : strideN 2 = 3 := rfl
                             omega
    clear hs
    go_enter Try.func91, Try.ntmps91
    go_wp2
    go_ret
    exact ⟨rfl, rfl⟩
  by_cases e3 : lay = 3
  · subst e3
    have hs := HS.out
    obtain rfl : s = 3 := by have : strideN 3 = 3 := rfl
                             omega
    clear hs
    go_enter Try.func91, Try.ntmps91
    go_wp2
    go_ret
    exact ⟨rfl, rfl⟩
  have hs := HS.out
  obtain rfl : lay = s := by
    unfold strideN at hs
    repeat' split at hs
    all_goals omega
  clear hs
  by_cases e4 : s = 4
  · subst e4
    go_enter Try.func91, Try.ntmps91
    go_wp2
    go_ret
    exact ⟨rfl, rfl⟩
  have f0 : ((s : Int) == 0) = false := by rw [beq_eq_false_iff_ne]; omega
  have f1 : ((s : Int) == 1) = false := by rw [beq_eq_false_iff_ne]; omega
  have f2 : ((s : Int) == 2) = false := by rw [beq_eq_false_iff_ne]; omega
  have f3 : ((s : Int) == 3) = false := by rw [beq_eq_false_iff_ne]; omega
  have f4 : ((s : Int) == 4) = false := by rw [beq_eq_false_iff_ne]; omega
  have g0 : (s == 0) = false := by rw [beq_eq_false_iff_ne]; omega
  have g1 : (s == 1) = false := by rw [beq_eq_false_iff_ne]; omega
  have g2 : (s == 2) = false := by rw [beq_eq_false_iff_ne]; omega
  have g3 : (s == 3) = false := by rw [beq_eq_false_iff_ne]; omega
  have g4 : (s == 4) = false := by rw [beq_eq_false_iff_ne]; omega
  clear e1 e2 e3 e4
  go_enter Try.func91, Try.ntmps91
  go_wp2
  go_ret
  exact ⟨rfl, rfl⟩
end Go.Proofs.Ytemobphkgbhhhaa
