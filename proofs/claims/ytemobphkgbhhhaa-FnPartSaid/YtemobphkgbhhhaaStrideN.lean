import Derived.Test.YtemobphkgbhhhaaBoxA
namespace Go.Proofs.Ytemobphkgbhhhaa
open Go.ChangeShapes Go.WideShapes Go.ChangeAt Go.RowKit Go.GrowR
set_option linter.unusedVariables false
set_option linter.unusedSimpArgs false
theorem strideS (lay : Int) (s : Nat) (w : World) (h : strideN lay = s) : Calls Try.prog 23 #[.int .i64 lay] w fun e w' => e = .returned (.int .i64 s) ∧ w' = w := by
  rw [← h]; exact stride_calls lay w
theorem stride_nat (lay : Int) (h1 : 1 ≤ lay) (h9 : lay ≤ 9) : ∃ s : Nat, strideN lay = s ∧ 2 ≤ s ∧ s ≤ 9 := by
  unfold strideN
  repeat' split
  all_goals first | omega | exact ⟨2, rfl, by omega, by omega⟩ | exact ⟨3, rfl, by omega, by omega⟩ | exact ⟨lay.toNat, by omega, by omega, by omega⟩
end Go.Proofs.Ytemobphkgbhhhaa
