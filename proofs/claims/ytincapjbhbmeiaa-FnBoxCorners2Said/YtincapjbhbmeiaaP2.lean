import Derived.Test.YtincapjbhbmeiaaGrid
import Derived.Laws.FloatArith
namespace Go.Proofs.Ytincapjbhbmeiaa
open Go.ChangeShapes Go.WideShapes Go.ChangeAt Go.RowKit Go.GrowR
set_option linter.unusedVariables false
set_option linter.unusedSimpArgs false
abbrev P2V (x y : Nat) : Value := .agg #[.float .f64 x, .float .f64 y]
noncomputable def p2B (p : Nat × Nat) : Bool := Fl.wholeB 1048576 p.1 && Fl.wholeB 1048576 p.2
theorem grid_p2 (x y : Nat) : gridB 1048576 2 [[x, y]] = p2B (x, y) := by
  unfold gridB rowB p2B; simp
theorem fssl_one2 (b b1 : Nat) (x y : Nat) (w : World) (h : w.cell? ⟨b, 0, none⟩ = some (.slice (some ⟨b1, 0, none⟩) 2 2)) (h0 : w.cell? ⟨b1, 0, none⟩ = some (.float .f64 x)) (h1 : w.cell? ⟨b1, 1, none⟩ = some (.float .f64 y)) :
    FSSl (.slice (some ⟨b, 0, none⟩) 1 1) [[x, y]] w := by
  refine ⟨_, _, rfl, Nat.le_refl _, Or.inr ⟨b, 0, rfl, ?_⟩⟩
  intro i xs hi
  match i, hi with
  | 0, hi =>
    obtain rfl := Option.some.inj hi
    refine ⟨_, h, _, _, rfl, Nat.le_refl _, Or.inr ⟨b1, 0, rfl, ?_⟩⟩
    intro j z hj
    match j, hj with
    | 0, hj => obtain rfl := Option.some.inj hj; exact h0
    | 1, hj => obtain rfl := Option.some.inj hj; exact h1
    | j + 2, hj => simp at hj
  | i + 1, hi => simp at hi
theorem off2_calls (x y : Nat) (w : World) :
    Calls Try.prog 34 #[P2V x y] w fun e w' => e = .returned (.slice (some ⟨w.heap.size + 1, 0, none⟩) 2 2) ∧ w' = ((w.alloc (Obj.cells #[Value.float FloatKind.f64 x, Value.float FloatKind.f64 y] 24)).alloc
      (Obj.cells #[Value.float FloatKind.f64 x, Value.float FloatKind.f64 y] 22)) := by
  go_enter Try.func34, Try.ntmps34
  go_wp2
  go_ret
  exact ⟨rfl, rfl⟩
set_option maxHeartbeats 2000000 in
theorem whole2_calls (b o c : Nat) (ps : List (Nat × Nat)) (w : World) (hc : P2Cells w b o ps) (hl : ps.length ≤ 1099511627776) :
    Calls Try.prog 12 #[.slice (some ⟨b, o, none⟩) ps.length c] w fun e w' => e = .returned (.bool (ps.all p2B)) ∧ Grow w w' := by
  have HC := Lib.hid hc; clear hc
  go_enter Try.func12, Try.ntmps12
  go_wp2
  go_loopw [7] (fun i wr => ∃ k : Nat, k ≤ ps.length ∧ i = .int .i64 k ∧ (ps.take k).all p2B = true ∧ Grow w wr) (fun i _ => ps.length - (intOf i).toNat)
  case atStart => exact ⟨0, Nat.zero_le _, rfl, rfl, Grow.refl w⟩
  case round =>
    obtain ⟨k, hk, rfl, hall, hg⟩ := hrel
    have HALL := Lib.hid hall; clear hall
    by_cases hlt : k < ps.length
    case neg =>
      have HG : Hid (ps.all p2B = true) := by
        have := HALL.out
        rw [List.take_of_length_le (by omega)] at this
        exact this
      go_wp2
      go_ret
      exact ⟨by rw [HG.out]; rfl, hg⟩
    case pos =>
      obtain ⟨⟨x, y⟩, hp⟩ : ∃ p, ps[k]? = some p := ⟨ps[k], by simp [hlt]⟩
      have HP := Lib.hid hp
      obtain ⟨e0, e1⟩ := HC.out.up hg k x y hp
      clear hp
      have HK : Hid ((ps.take (k + 1)).all p2B = p2B (x, y)) := by
        show _ = _
        rw [all_take_succ _ _ _ _ HP.out, HALL.out]; rfl
      have HF : Hid (p2B (x, y) = false → ps.all p2B = false) := fun h => all_false_of _ _ k _ HP.out h
      cases hb : p2B (x, y) with
      | true =>
        have HB := Lib.hid hb; clear hb
        go_wp2_with (first
          | (go_at_call 34; refine (off2_calls _ _ _).mono ?_; rintro e w' ⟨rfl, rfl⟩)
          | (go_at_call 22; refine (grid_calls _ [[x, y]] 2 _ 1048576 _ (fssl_one2 _ _ _ _ _ (by go_simp; rfl) (by go_simp) (by go_simp)) isI_20 (by decide) (by decide) (by simp) (by simp) (by decide)).mono ?_; rintro e w' ⟨rfl, rfl⟩; rw [grid_p2, HB.out]))
        go_roundw
        case rel => exact ⟨k + 1, by omega, by go_num, by rw [HK.out, HB.out], (((hg.alloc _).alloc _).alloc _).alloc _⟩
        case measure => simp [intOf]; omega
      | false =>
        have HB := Lib.hid hb; clear hb
        go_wp2_with (first
          | (go_at_call 34; refine (off2_calls _ _ _).mono ?_; rintro e w' ⟨rfl, rfl⟩)
          | (go_at_call 22; refine (grid_calls _ [[x, y]] 2 _ 1048576 _ (fssl_one2 _ _ _ _ _ (by go_simp; rfl) (by go_simp) (by go_simp)) isI_20 (by decide) (by decide) (by simp) (by simp) (by decide)).mono ?_; rintro e w' ⟨rfl, rfl⟩; rw [grid_p2, HB.out]))
        go_ret
        exact ⟨by rw [HF.out HB.out]; rfl, (((hg.alloc _).alloc _).alloc _).alloc _⟩
theorem p2B_true {x y : Nat} (h : p2B (x, y) = true) : ∃ a b : Int, Fl.IsI x a ∧ -1048576 ≤ a ∧ a ≤ 1048576 ∧ Fl.IsI y b ∧ -1048576 ≤ b ∧ b ≤ 1048576 := by
  unfold p2B at h
  simp only [Bool.and_eq_true] at h
  obtain ⟨a, ia, a1, a2⟩ := Fl.wholeB_true h.1
  obtain ⟨b, ib, b1, b2⟩ := Fl.wholeB_true h.2
  exact ⟨a, b, ia, a1, a2, ib, b1, b2⟩
theorem p2cells_2 (w : World) (b : Nat) (x0 y0 x1 y1 : Nat) (h0 : w.cell? ⟨b, 0, none⟩ = some (.float .f64 x0)) (h1 : w.cell? ⟨b, 1, none⟩ = some (.float .f64 y0)) (h2 : w.cell? ⟨b, 2, none⟩ = some (.float .f64 x1)) (h3 : w.cell? ⟨b, 3, none⟩ = some (.float .f64 y1)) :
    P2Cells w b 0 [(x0, y0), (x1, y1)] := by
  intro i qx qy hi
  match i, hi with
  | 0, hi => simp only [List.getElem?_cons_zero, List.getElem?_cons_succ, Option.some.injEq, Prod.mk.injEq] at hi; obtain ⟨rfl, rfl⟩ := hi; exact ⟨h0, h1⟩
  | 1, hi => simp only [List.getElem?_cons_zero, List.getElem?_cons_succ, Option.some.injEq, Prod.mk.injEq] at hi; obtain ⟨rfl, rfl⟩ := hi; exact ⟨h2, h3⟩
  | i + 2, hi => simp at hi
theorem p2cells_3 (w : World) (b : Nat) (x0 y0 x1 y1 x2 y2 : Nat) (h0 : w.cell? ⟨b, 0, none⟩ = some (.float .f64 x0)) (h1 : w.cell? ⟨b, 1, none⟩ = some (.float .f64 y0)) (h2 : w.cell? ⟨b, 2, none⟩ = some (.float .f64 x1)) (h3 : w.cell? ⟨b, 3, none⟩ = some (.float .f64 y1)) (h4 : w.cell? ⟨b, 4, none⟩ = some (.float .f64 x2)) (h5 : w.cell? ⟨b, 5, none⟩ = some (.float .f64 y2)) :
    P2Cells w b 0 [(x0, y0), (x1, y1), (x2, y2)] := by
  intro i qx qy hi
  match i, hi with
  | 0, hi => simp only [List.getElem?_cons_zero, List.getElem?_cons_succ, Option.some.injEq, Prod.mk.injEq] at hi; obtain ⟨rfl, rfl⟩ := hi; exact ⟨h0, h1⟩
  | 1, hi => simp only [List.getElem?_cons_zero, List.getElem?_cons_succ, Option.some.injEq, Prod.mk.injEq] at hi; obtain ⟨rfl, rfl⟩ := hi; exact ⟨h2, h3⟩
  | 2, hi => simp only [List.getElem?_cons_zero, List.getElem?_cons_succ, Option.some.injEq, Prod.mk.injEq] at hi; obtain ⟨rfl, rfl⟩ := hi; exact ⟨h4, h5⟩
  | i + 3, hi => simp at hi
end Go.Proofs.Ytincapjbhbmeiaa
