import Derived.Test.YtincapjbhbmeiaaGrid
import Derived.Laws.FloatArith
namespace Go.Proofs.Ytincapjbhbmeiaa
open Go.ChangeShapes Go.WideShapes Go.ChangeAt Go.RowKit Go.GrowR
set_option linter.unusedVariables false
set_option linter.unusedSimpArgs false
abbrev P3V (x y z : Nat) : Value := .agg #[.float .f64 x, .float .f64 y, .float .f64 z]
noncomputable def p3B (p : Nat × Nat × Nat) : Bool := Fl.wholeB 1048576 p.1 && (Fl.wholeB 1048576 p.2.1 && Fl.wholeB 1048576 p.2.2)
theorem grid_p3 (x y z : Nat) : gridB 1048576 3 [[x, y, z]] = p3B (x, y, z) := by
  unfold gridB rowB p3B; simp
theorem fssl_one3 (b b1 : Nat) (x y z : Nat) (w : World) (h : w.cell? ⟨b, 0, none⟩ = some (.slice (some ⟨b1, 0, none⟩) 3 3)) (h0 : w.cell? ⟨b1, 0, none⟩ = some (.float .f64 x)) (h1 : w.cell? ⟨b1, 1, none⟩ = some (.float .f64 y)) (h2 : w.cell? ⟨b1, 2, none⟩ = some (.float .f64 z)) :
    FSSl (.slice (some ⟨b, 0, none⟩) 1 1) [[x, y, z]] w := by
  refine ⟨_, _, rfl, Nat.le_refl _, Or.inr ⟨b, 0, rfl, ?_⟩⟩
  intro i xs hi
  match i, hi with
  | 0, hi =>
    obtain rfl := Option.some.inj hi
    refine ⟨_, h, _, _, rfl, Nat.le_refl _, Or.inr ⟨b1, 0, rfl, ?_⟩⟩
    intro j z hj
    match j, hj with
    | 0, hj => obtain rfl := Option.some.inj hj; exact h0
    | 1, hj => obtain rfl := Option.some.inj hj; exact h1
    | 2, hj => obtain rfl := Option.some.inj hj; exact h2
    | j + 3, hj => simp at hj
  | i + 1, hi => simp at hi
theorem off3_calls (x y z : Nat) (w : World) :
    Calls Try.prog 23 #[P3V x y z] w fun e w' => e = .returned (.slice (some ⟨w.heap.size + 1, 0, none⟩) 3 3) ∧ w' = ((w.alloc (Obj.cells #[Value.float FloatKind.f64 x, Value.float FloatKind.f64 y, Value.float FloatKind.f64 z] 30)).alloc
      (Obj.cells #[Value.float FloatKind.f64 x, Value.float FloatKind.f64 y, Value.float FloatKind.f64 z] 22)) := by
  go_enter Try.func23, Try.ntmps23
  go_wp2
  go_ret
  exact ⟨rfl, rfl⟩
set_option maxHeartbeats 2000000 in
theorem whole3_calls (b o c : Nat) (ps : List (Nat × Nat × Nat)) (w : World) (hc : P3Cells w b o ps) (hl : ps.length ≤ 1099511627776) :
    Calls Try.prog 15 #[.slice (some ⟨b, o, none⟩) ps.length c] w fun e w' => e = .returned (.bool (ps.all p3B)) ∧ Grow w w' := by
  have HC := Lib.hid hc; clear hc
  go_enter Try.func15, Try.ntmps15
  go_wp2
  go_loopw [7] (fun i wr => ∃ k : Nat, k ≤ ps.length ∧ i = .int .i64 k ∧ (ps.take k).all p3B = true ∧ Grow w wr) (fun i _ => ps.length - (intOf i).toNat)
  case atStart => exact ⟨0, Nat.zero_le _, rfl, rfl, Grow.refl w⟩
  case round =>
    obtain ⟨k, hk, rfl, hall, hg⟩ := hrel
    have HALL := Lib.hid hall; clear hall
    by_cases hlt : k < ps.length
    case neg =>
      have HG : Hid (ps.all p3B = true) := by
        have := HALL.out
        rw [List.take_of_length_le (by omega)] at this
        exact this
      go_wp2
      go_ret
      exact ⟨by rw [HG.out]; rfl, hg⟩
    case pos =>
      obtain ⟨⟨x, y, z⟩, hp⟩ : ∃ p, ps[k]? = some p := ⟨ps[k], by simp [hlt]⟩
      have HP := Lib.hid hp
      obtain ⟨e0, e1, e2⟩ := HC.out.up hg k x y z hp
      clear hp
      have HK : Hid ((ps.take (k + 1)).all p3B = p3B (x, y, z)) := by
        show _ = _
        rw [all_take_succ _ _ _ _ HP.out, HALL.out]; rfl
      have HF : Hid (p3B (x, y, z) = false → ps.all p3B = false) := fun h => all_false_of _ _ k _ HP.out h
      cases hb : p3B (x, y, z) with
      | true =>
        have HB := Lib.hid hb; clear hb
        go_wp2_with (first
          | (go_at_call 23; refine (off3_calls _ _ _ _).mono ?_; rintro e w' ⟨rfl, rfl⟩)
          | (go_at_call 22; refine (grid_calls _ [[x, y, z]] 3 _ 1048576 _ (fssl_one3 _ _ _ _ _ _ (by go_simp; rfl) (by go_simp) (by go_simp) (by go_simp)) isI_20 (by decide) (by decide) (by simp) (by simp) (by decide)).mono ?_; rintro e w' ⟨rfl, rfl⟩; rw [grid_p3, HB.out]))
        go_roundw
        case rel => exact ⟨k + 1, by omega, by go_num, by rw [HK.out, HB.out], (((hg.alloc _).alloc _).alloc _).alloc _⟩
        case measure => simp [intOf]; omega
      | false =>
        have HB := Lib.hid hb; clear hb
        go_wp2_with (first
          | (go_at_call 23; refine (off3_calls _ _ _ _).mono ?_; rintro e w' ⟨rfl, rfl⟩)
          | (go_at_call 22; refine (grid_calls _ [[x, y, z]] 3 _ 1048576 _ (fssl_one3 _ _ _ _ _ _ (by go_simp; rfl) (by go_simp) (by go_simp) (by go_simp)) isI_20 (by decide) (by decide) (by simp) (by simp) (by decide)).mono ?_; rintro e w' ⟨rfl, rfl⟩; rw [grid_p3, HB.out]))
        go_ret
        exact ⟨by rw [HF.out HB.out]; rfl, (((hg.alloc _).alloc _).alloc _).alloc _⟩
theorem p3B_true {x y z : Nat} (h : p3B (x, y, z) = true) : ∃ a b c : Int, Fl.IsI x a ∧ -1048576 ≤ a ∧ a ≤ 1048576 ∧ Fl.IsI y b ∧ -1048576 ≤ b ∧ b ≤ 1048576 ∧ Fl.IsI z c ∧ -1048576 ≤ c ∧ c ≤ 1048576 := by
  unfold p3B at h
  simp only [Bool.and_eq_true] at h
  obtain ⟨a, ia, a1, a2⟩ := Fl.wholeB_true h.1
  obtain ⟨b, ib, b1, b2⟩ := Fl.wholeB_true h.2.1
  obtain ⟨c, ic, c1, c2⟩ := Fl.wholeB_true h.2.2
  exact ⟨a, b, c, ia, a1, a2, ib, b1, b2, ic, c1, c2⟩
theorem p3cells_2 (w : World) (b : Nat) (x0 y0 z0 x1 y1 z1 : Nat) (h0 : w.cell? ⟨b, 0, none⟩ = some (.float .f64 x0)) (h1 : w.cell? ⟨b, 1, none⟩ = some (.float .f64 y0)) (h2 : w.cell? ⟨b, 2, none⟩ = some (.float .f64 z0)) (h3 : w.cell? ⟨b, 3, none⟩ = some (.float .f64 x1)) (h4 : w.cell? ⟨b, 4, none⟩ = some (.float .f64 y1)) (h5 : w.cell? ⟨b, 5, none⟩ = some (.float .f64 z1)) :
    P3Cells w b 0 [(x0, y0, z0), (x1, y1, z1)] := by
  intro i qx qy qz hi
  match i, hi with
  | 0, hi => simp only [List.getElem?_cons_zero, List.getElem?_cons_succ, Option.some.injEq, Prod.mk.injEq] at hi; obtain ⟨rfl, rfl, rfl⟩ := hi; exact ⟨h0, h1, h2⟩
  | 1, hi => simp only [List.getElem?_cons_zero, List.getElem?_cons_succ, Option.some.injEq, Prod.mk.injEq] at hi; obtain ⟨rfl, rfl, rfl⟩ := hi; exact ⟨h3, h4, h5⟩
  | i + 2, hi => simp at hi
theorem p3cells_3 (w : World) (b : Nat) (x0 y0 z0 x1 y1 z1 x2 y2 z2 : Nat) (h0 : w.cell? ⟨b, 0, none⟩ = some (.float .f64 x0)) (h1 : w.cell? ⟨b, 1, none⟩ = some (.float .f64 y0)) (h2 : w.cell? ⟨b, 2, none⟩ = some (.float .f64 z0)) (h3 : w.cell? ⟨b, 3, none⟩ = some (.float .f64 x1)) (h4 : w.cell? ⟨b, 4, none⟩ = some (.float .f64 y1)) (h5 : w.cell? ⟨b, 5, none⟩ = some (.float .f64 z1)) (h6 : w.cell? ⟨b, 6, none⟩ = some (.float .f64 x2)) (h7 : w.cell? ⟨b, 7, none⟩ = some (.float .f64 y2)) (h8 : w.cell? ⟨b, 8, none⟩ = some (.float .f64 z2)) :
    P3Cells w b 0 [(x0, y0, z0), (x1, y1, z1), (x2, y2, z2)] := by
  intro i qx qy qz hi
  match i, hi with
  | 0, hi => simp only [List.getElem?_cons_zero, List.getElem?_cons_succ, Option.some.injEq, Prod.mk.injEq] at hi; obtain ⟨rfl, rfl, rfl⟩ := hi; exact ⟨h0, h1, h2⟩
  | 1, hi => simp only [List.getElem?_cons_zero, List.getElem?_cons_succ, Option.some.injEq, Prod.mk.injEq] at hi; obtain ⟨rfl, rfl, rfl⟩ := hi; exact ⟨h3, h4, h5⟩
  | 2, hi => simp only [List.getElem?_cons_zero, List.getElem?_cons_succ, Option.some.injEq, Prod.mk.injEq] at hi; obtain ⟨rfl, rfl, rfl⟩ := hi; exact ⟨h6, h7, h8⟩
  | i + 3, hi => simp at hi
end Go.Proofs.Ytincapjbhbmeiaa
