import Derived.Test.YtlkoaanagbgpkaaBufF
namespace Go.Proofs.Ytlkoaanagbgpkaa
open Go.ChangeShapes Go.WideShapes Go.ChangeAt Go.RowKit Go.GrowR
set_option linter.unusedVariables false
set_option linter.unusedSimpArgs false

def LawP (w : World) (e : Ending) (w' : World) : Prop := e = .returned (.bool true) ∧ Grow w w'
set_option maxHeartbeats 4000000 in
theorem law_out (n : Int) (big : Bool) (w : World) (h : n < 1 ∨ 9 < n) : Calls Try.prog 7 #[.int .i64 n, .bool big] w (LawP w) := by
  by_cases h1 : n < 1
  · have q : decide (n < 1) = true := decide_eq_true h1
    go_enter Try.func7, Try.ntmps7
    go_wp2
    go_ret
    exact ⟨rfl, Grow.refl _⟩
  · have h9 : 9 < n := by omega
    have q : decide (n < 1) = false := decide_eq_false h1
    have q2 : decide (9 < n) = true := decide_eq_true h9
    go_enter Try.func7, Try.ntmps7
    go_wp2
    go_ret
    exact ⟨rfl, Grow.refl _⟩
set_option maxRecDepth 100000 in
set_option maxHeartbeats 4000000 in
theorem law_in (n : Nat) (big : Bool) (w : World) (h1 : 1 ≤ n) (h9 : n ≤ 9) : Calls Try.prog 7 #[.int .i64 n, .bool big] w (LawP w) := by
  have HB := Lib.hid (fun w' => bytesOf_calls big n w' h1 h9)
  have q1 : decide ((n : Int) < 1) = false := decide_eq_false (by omega)
  have q2 : decide (9 < (n : Int)) = false := decide_eq_false (by omega)
  have q1' : ¬ (n : Int) < 1 := by omega
  have q2' : ¬ 9 < (n : Int) := by omega
  have hw8 : IntKind.i64.wrap (8 * (n : Int)) = 8 * (n : Int) := by rw [IntKind.wrap_i64]; omega
  have HN := Lib.hid (show 1 ≤ n ∧ n ≤ 9 from ⟨h1, h9⟩)
  clear h1 h9
  go_enter Try.func7, Try.ntmps7
  go_wp2_with fail
  refine (HB.out _).mono ?_
  rintro e w1 ⟨V, rfl, ⟨h, c, rfl, hBh, hcell⟩, hg⟩
  have HC := Lib.hid hcell
  have HG := Lib.hid hg
  clear hcell hg
  go_wp2
  go_loopw [33] (fun i wr => ∃ k : Nat, i = .int .i64 k ∧ k ≤ 8 * n ∧ Grow w1 wr) (fun i _ => 8 * n - (intOf i).toNat)
  case atStart => exact ⟨0, rfl, Nat.zero_le _, Grow.refl _⟩
  case round =>
    obtain ⟨k, rfl, hk, hgr⟩ := hrel
    have HR := Lib.hid hgr
    clear hgr
    by_cases hkn : k < 8 * n
    case neg =>
      have e : k = 8 * n := by omega
      subst e
      go_wp2
      go_ret
      exact ⟨rfl, HG.out.trans HR.out⟩
    case pos =>
      have hcell := up_cell (HC.out k hkn) HR.out
      have hlt : (k : Int) < 8 * (n : Int) := by omega
      have hwk : IntKind.i64.wrap ((k : Int) + 1) = (k : Int) + 1 := by have := HN.out; rw [IntKind.wrap_i64]; omega
      have HKN := Lib.hid (show k < 8 * n from hkn)
      have hfe : fB big n n k = eB big (k % 8) := by unfold fB; rw [if_pos hkn]
      rw [hfe] at hcell
      have hr : k % 8 = 0 ∨ k % 8 = 1 ∨ k % 8 = 2 ∨ k % 8 = 3 ∨ k % 8 = 4 ∨ k % 8 = 5 ∨ k % 8 = 6 ∨ k % 8 = 7 := by omega
      clear hfe hkn hk
      cases big
      all_goals
        rcases hr with hr | hr | hr | hr | hr | hr | hr | hr
        all_goals
          have hm : Int.tmod (k : Int) 8 = ((k % 8 : Nat) : Int) := by rw [Int.tmod_eq_emod_of_nonneg (by omega)]; omega
          rw [hr] at hcell hm
          clear hr
          simp only [eB] at hcell
          simp at hcell hm
          go_wp2
          go_roundw
          case rel => exact ⟨k + 1, by go_num, by have := HKN.out; omega, HR.out.alloc _⟩
          case measure => simp [intOf]; omega
theorem law_calls (n : Int) (big : Bool) (w : World) : Calls Try.prog 7 #[.int .i64 n, .bool big] w fun e w' => e = .returned (.bool true) ∧ Grow w w' := by
  by_cases h : n < 1 ∨ 9 < n
  · exact law_out n big w h
  · obtain ⟨m, rfl⟩ : ∃ m : Nat, n = m := ⟨n.toNat, by omega⟩
    exact law_in m big w (by omega) (by omega)
end Go.Proofs.Ytlkoaanagbgpkaa
