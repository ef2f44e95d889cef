import Derived.Test.YtincapjbhbmeiaaGrid
namespace Go.Proofs.Ytincapjbhbmeiaa
open Go.ChangeShapes Go.WideShapes Go.ChangeAt Go.RowKit Go.GrowR
set_option linter.unusedVariables false

/-- 2^20 as a float -/
theorem isI_20 : Fl.IsI 4697254411347427328 1048576 := by
  refine ⟨false, 4503599627370496, -32, by decide +kernel, ?_⟩
  simp only [Fl.dv, Bool.false_eq_true, if_false]
  rw [show (4503599627370496 : Nat) = 1048576 * 2 ^ 32 from by decide, Rat.natCast_mul, ← Fl.p2_nat, Rat.mul_assoc, ← Fl.p2_add]
  rw [show ((32 : Nat) : Int) + -32 = 0 from by decide, Fl.p2_zero, Rat.mul_one]; rfl

noncomputable def p2B (p : Nat × Nat) : Bool := Fl.wholeB 1048576 p.1 && Fl.wholeB 1048576 p.2
theorem grid_p2 (x y : Nat) : gridB 1048576 2 [[x, y]] = p2B (x, y) := by
  unfold gridB rowB p2B; simp

theorem fssl_one (b b1 : Nat) (x y : Nat) (w : World) (h0 : w.cell? ⟨b, 0, none⟩ = some (.slice (some ⟨b1, 0, none⟩) 2 2)) (h1 : w.cell? ⟨b1, 0, none⟩ = some (.float .f64 x)) (h2 : w.cell? ⟨b1, 1, none⟩ = some (.float .f64 y)) :
    FSSl (.slice (some ⟨b, 0, none⟩) 1 1) [[x, y]] w := by
  refine ⟨_, _, rfl, Nat.le_refl _, Or.inr ⟨b, 0, rfl, ?_⟩⟩
  intro i xs hi
  match i, hi with
  | 0, hi =>
    obtain rfl := Option.some.inj hi
    refine ⟨_, h0, _, _, rfl, Nat.le_refl _, Or.inr ⟨b1, 0, rfl, ?_⟩⟩
    intro j z hj
    match j, hj with
    | 0, hj => obtain rfl := Option.some.inj hj; exact h1
    | 1, hj => obtain rfl := Option.some.inj hj; exact h2
    | j + 2, hj => simp at hj
  | i + 1, hi => simp at hi

theorem off2_calls (x y : Nat) (w : World) :
    Calls Try.prog 34 #[.agg #[.float .f64 x, .float .f64 y]] w fun e w' => e = .returned (.slice (some ⟨w.heap.size + 1, 0, none⟩) 2 2) ∧ w' = ((w.alloc (Obj.cells #[Value.float FloatKind.f64 x, Value.float FloatKind.f64 y] 24)).alloc
      (Obj.cells #[Value.float FloatKind.f64 x, Value.float FloatKind.f64 y] 22)) := by
  go_enter Try.func34, Try.ntmps34
  go_wp2
  go_ret
  exact ⟨rfl, rfl⟩

set_option maxHeartbeats 2000000 in
theorem whole2_calls (b o c : Nat) (ps : List (Nat × Nat)) (w : World) (hc : P2Cells w b o ps) (hl : ps.length ≤ 1099511627776) :
    Calls Try.prog 12 #[.slice (some ⟨b, o, none⟩) ps.length c] w fun e w' => e = .returned (.bool (ps.all p2B)) ∧ Grow w w' := by
  have HC := Lib.hid hc; clear hc
  go_enter Try.func12, Try.ntmps12
  go_wp2
  go_loopw [7] (fun i wr => ∃ k : Nat, k ≤ ps.length ∧ i = .int .i64 k ∧ (ps.take k).all p2B = true ∧ Grow w wr) (fun i _ => ps.length - (intOf i).toNat)
  case atStart => exact ⟨0, Nat.zero_le _, rfl, rfl, Grow.refl w⟩
  case round =>
    obtain ⟨k, hk, rfl, hall, hg⟩ := hrel
    have HALL := Lib.hid hall; clear hall
    by_cases hlt : k < ps.length
    case neg =>
      have HG : Hid (ps.all p2B = true) := by
        have := HALL.out
        rw [List.take_of_length_le (by omega)] at this
        exact this
      go_wp2
      go_ret
      exact ⟨by rw [HG.out]; rfl, hg⟩
    case pos =>
      obtain ⟨⟨x, y⟩, hp⟩ : ∃ p, ps[k]? = some p := ⟨ps[k], by simp [hlt]⟩
      have HP := Lib.hid hp
      obtain ⟨e1, e2⟩ := HC.out.up hg k x y hp
      clear hp
      have HK : Hid ((ps.take (k + 1)).all p2B = p2B (x, y)) := by
        show _ = _
        rw [all_take_succ _ _ _ _ HP.out, HALL.out]; rfl
      have HF : Hid (p2B (x, y) = false → ps.all p2B = false) := fun h => all_false_of _ _ k _ HP.out h
      cases hb : p2B (x, y) with
      | true =>
        have HB := Lib.hid hb; clear hb
        go_wp2_with (first
          | (go_at_call 34; refine (off2_calls _ _ _).mono ?_; rintro e w' ⟨rfl, rfl⟩)
          | (go_at_call 22; refine (grid_calls _ [[x, y]] 2 _ 1048576 _ (fssl_one _ _ _ _ _ (by go_simp; rfl) (by go_simp) (by go_simp)) isI_20 (by decide) (by decide) (by simp) (by simp) (by decide)).mono ?_; rintro e w' ⟨rfl, rfl⟩; rw [grid_p2, HB.out]))
        go_roundw
        case rel => exact ⟨k + 1, by omega, by go_num, by rw [HK.out, HB.out], (((hg.alloc _).alloc _).alloc _).alloc _⟩
        case measure => simp [intOf]; omega
      | false =>
        have HB := Lib.hid hb; clear hb
        go_wp2_with (first
          | (go_at_call 34; refine (off2_calls _ _ _).mono ?_; rintro e w' ⟨rfl, rfl⟩)
          | (go_at_call 22; refine (grid_calls _ [[x, y]] 2 _ 1048576 _ (fssl_one _ _ _ _ _ (by go_simp; rfl) (by go_simp) (by go_simp)) isI_20 (by decide) (by decide) (by simp) (by simp) (by decide)).mono ?_; rintro e w' ⟨rfl, rfl⟩; rw [grid_p2, HB.out]))
        go_ret
        exact ⟨by rw [HF.out HB.out]; rfl, (((hg.alloc _).alloc _).alloc _).alloc _⟩
end Go.Proofs.Ytincapjbhbmeiaa
