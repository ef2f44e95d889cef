import Derived.Test.YtincapjbhbmeiaaCor2
import Derived.BigQuiet
import Derived.Deep.QuietTactic
namespace Go.Proofs.Ytincapjbhbmeiaa
open Go.ChangeShapes Go.WideShapes Go.ChangeAt Go.RowKit Go.GrowR
set_option linter.unusedVariables false
set_option linter.unusedSimpArgs false
theorem neq2_run {x y : Nat} {a b : Int} (hx : Fl.IsI x a) (hy : Fl.IsI y b) (w : World) :
    (binOp .neq 24 (P2V x y) (P2V x y)).run Try.prog w = .ok (.bool false) w := by
  have h := run_eqS (P := Try.prog) (t := 24) (tf := 22) (z := .float .f64 0) (n := 8) (by kernel_rfl) (by kernel_rfl) (by kernel_rfl) (by kernel_rfl) (l := [("X", 0), ("Y", 1)]) (by kernel_rfl) (by decide) [x, y] [x, y] rfl rfl w
  have e0 : eqF x x = true := Fl.eqB hx hx
  have e1 : eqF y y = true := Fl.eqB hy hy
  simp only [List.zip_cons_cons, List.zip_nil_right, List.all_cons, List.all_nil, e0, e1, Bool.and_true] at h
  rw [run_neq_struct]
  change ((Op.equalIn 10000 24 (.agg ([x, y].map (Value.float .f64)).toArray) (.agg ([x, y].map (Value.float .f64)).toArray)).run Try.prog w).andThen _ = _
  rw [h]; rfl
set_option maxRecDepth 100000 in
set_option maxHeartbeats 4000000 in
theorem fnBoxCorners2_calls (x y u v : Nat) (w : World) : Calls Try.prog 5 #[P2V x y, P2V u v] w fun e w' => e = .returned (.bool true) ∧ Grow w w' := by
  cases hb : [(x, y), (u, v)].all p2B with
  | false =>
    have HB := Lib.hid hb; clear hb
    go_enter Try.func5, Try.ntmps5
    go_wp2_with (go_at_call 12; refine (whole2_calls _ 0 _ [(x, y), (u, v)] _ (p2cells_2 _ _ _ _ _ _ (by go_simp) (by go_simp) (by go_simp) (by go_simp)) (by simp)).mono ?_; rintro e wa ⟨rfl, hga⟩; rw [HB.out])
    go_ret
    exact ⟨rfl, ((((Grow.refl w).alloc _).alloc _).alloc _).trans hga⟩
  | true =>
    have HB := Lib.hid hb
    simp only [List.all_cons, List.all_nil, Bool.and_true, Bool.and_eq_true] at hb
    obtain ⟨a, b, ia, a1, a2, ib, b1, b2⟩ := p2B_true hb.1
    obtain ⟨p, q, ip, p1, p2, iq, q1, q2⟩ := p2B_true hb.2
    clear hb
    have Q0 := neq2_run ia ib
    have Q1 := neq2_run ip ib
    have Q2 := neq2_run ip iq
    have Q3 := neq2_run ia iq
    clear ia a1 a2 ib b1 b2 ip p1 p2 iq q1 q2
    have hgd : Try.prog.eqGuardType Try.prog.depth 24 = false := by kernel_rfl
    go_enter Try.func5, Try.ntmps5
    go_wp2_with (go_at_call 12; refine (whole2_calls _ 0 _ [(x, y), (u, v)] _ (p2cells_2 _ _ _ _ _ _ (by go_simp) (by go_simp) (by go_simp) (by go_simp)) (by simp)).mono ?_; rintro e wa ⟨rfl, hga⟩; rw [HB.out]; have k0 : wa.cell? ⟨w.heap.size, 0, none⟩ = some (.float .f64 x) := up_cell (by go_simp) hga; have k1 : wa.cell? ⟨w.heap.size, 1, none⟩ = some (.float .f64 y) := up_cell (by go_simp) hga; have k2 : wa.cell? ⟨w.heap.size + 1, 0, none⟩ = some (.float .f64 u) := up_cell (by go_simp) hga; have k3 : wa.cell? ⟨w.heap.size + 1, 1, none⟩ = some (.float .f64 v) := up_cell (by go_simp) hga; have hsz : w.heap.size + 1 + 1 + 1 ≤ wa.heap.size := (by simpa using hga.size); have lt0 : w.heap.size < wa.heap.size := (by omega); have lt1 : w.heap.size + 1 < wa.heap.size := (by omega); have ne0 : ¬ w.heap.size = wa.heap.size := (by omega); have ne1 : ¬ w.heap.size + 1 = wa.heap.size := (by omega))
    have HGA := Lib.hid hga; clear hga
    refine (box2_calls _ _ _ _ _).mono ?_; rintro e wb ⟨rfl, hgb⟩
    have HGB := Lib.hid hgb
    clear k0 k1 k2 k3
    have W0 := Lib.hid (up_cell (a := ⟨wa.heap.size, 0, none⟩) (v := .float .f64 x) (by go_simp) hgb)
    have W1 := Lib.hid (up_cell (a := ⟨wa.heap.size, 1, none⟩) (v := .float .f64 y) (by go_simp) hgb)
    have W2 := Lib.hid (up_cell (a := ⟨wa.heap.size, 2, none⟩) (v := .float .f64 u) (by go_simp) hgb)
    have W3 := Lib.hid (up_cell (a := ⟨wa.heap.size, 3, none⟩) (v := .float .f64 y) (by go_simp) hgb)
    have W4 := Lib.hid (up_cell (a := ⟨wa.heap.size, 4, none⟩) (v := .float .f64 u) (by go_simp) hgb)
    have W5 := Lib.hid (up_cell (a := ⟨wa.heap.size, 5, none⟩) (v := .float .f64 v) (by go_simp) hgb)
    have W6 := Lib.hid (up_cell (a := ⟨wa.heap.size, 6, none⟩) (v := .float .f64 x) (by go_simp) hgb)
    have W7 := Lib.hid (up_cell (a := ⟨wa.heap.size, 7, none⟩) (v := .float .f64 v) (by go_simp) hgb)
    clear hgb
    go_wp2_with fail
    refine (vert2_calls _ _ _ _ _).mono ?_
    rintro e wd ⟨O, rfl, hgd2, hown⟩
    have X0 := Lib.hid (up_cell W0.out hgd2)
    have X1 := Lib.hid (up_cell W1.out hgd2)
    have X2 := Lib.hid (up_cell W2.out hgd2)
    have X3 := Lib.hid (up_cell W3.out hgd2)
    have X4 := Lib.hid (up_cell W4.out hgd2)
    have X5 := Lib.hid (up_cell W5.out hgd2)
    have X6 := Lib.hid (up_cell W6.out hgd2)
    have X7 := Lib.hid (up_cell W7.out hgd2)
    clear W0 W1 W2 W3 W4 W5 W6 W7
    have HGD := Lib.hid ((((((((Grow.refl w).alloc _).alloc _).alloc _).trans HGA.out).alloc _).trans HGB.out).trans hgd2)
    clear hgd2
    rcases hown.2 with ⟨_, h0⟩ | ⟨g, cap, cur, rfl, hgB, hh, hn, hm, hs, ht⟩
    · cases h0
    have cel : ∀ (j : Nat) (Q : Value), (cor2 x y u v)[j]? = some Q → wd.cell? ⟨g, j, none⟩ = some Q := by
      intro j Q hj
      rw [cell_of_row wd g j cur _ (0, 0) hh]
      rw [← ht, List.getElem?_take] at hj
      split at hj
      · simpa using hj
      · cases hj
    have Y0 := Lib.hid (cel 0 (.float .f64 x) rfl)
    have Y1 := Lib.hid (cel 1 (.float .f64 y) rfl)
    have Y2 := Lib.hid (cel 2 (.float .f64 u) rfl)
    have Y3 := Lib.hid (cel 3 (.float .f64 y) rfl)
    have Y4 := Lib.hid (cel 4 (.float .f64 u) rfl)
    have Y5 := Lib.hid (cel 5 (.float .f64 v) rfl)
    have Y6 := Lib.hid (cel 6 (.float .f64 x) rfl)
    have Y7 := Lib.hid (cel 7 (.float .f64 v) rfl)
    have HQ := Lib.hid (show (∀ w, (binOp .neq 24 (P2V x y) (P2V x y)).run Try.prog w = .ok (.bool false) w) ∧ (∀ w, (binOp .neq 24 (P2V u y) (P2V u y)).run Try.prog w = .ok (.bool false) w) ∧ (∀ w, (binOp .neq 24 (P2V u v) (P2V u v)).run Try.prog w = .ok (.bool false) w) ∧ (∀ w, (binOp .neq 24 (P2V x v) (P2V x v)).run Try.prog w = .ok (.bool false) w) from ⟨Q0, Q1, Q2, Q3⟩)
    clear Q0 Q1 Q2 Q3
    clear cel hown hgB hh hn hm hs ht hsz
    go_wp2
    go_loopw [33] (fun i wr => ∃ k : Nat, i = .int .i64 k ∧ k ≤ 4 ∧ Grow wd wr) (fun i _ => 4 - (intOf i).toNat)
    case atStart => exact ⟨0, rfl, Nat.zero_le _, Grow.refl _⟩
    case round =>
      obtain ⟨k, rfl, hk, hg⟩ := hrel
      have HG := Lib.hid hg; clear hg
      obtain rfl | rfl | rfl | rfl | rfl : k = 0 ∨ k = 1 ∨ k = 2 ∨ k = 3 ∨ k = 4 := by omega
      · clear hk
        have qq := HQ.out.1
        have x0 := up_cell X0.out HG.out
        have y0 := up_cell Y0.out HG.out
        have x1 := up_cell X1.out HG.out
        have y1 := up_cell Y1.out HG.out
        have ltw : wa.heap.size < wr.heap.size := World.block_lt_of_cell? _ _ x0
        have new : ¬ wa.heap.size = wr.heap.size := by omega
        go_wp2
        go_quiet (fail)
        go_wp2
        go_roundw
        case rel => exact ⟨1, by go_num, by omega, (HG.out.alloc _).drewN _⟩
        case measure => simp [intOf]
      · clear hk
        have qq := HQ.out.2.1
        have x0 := up_cell X2.out HG.out
        have y0 := up_cell Y2.out HG.out
        have x1 := up_cell X3.out HG.out
        have y1 := up_cell Y3.out HG.out
        have ltw : wa.heap.size < wr.heap.size := World.block_lt_of_cell? _ _ x0
        have new : ¬ wa.heap.size = wr.heap.size := by omega
        go_wp2
        go_quiet (fail)
        go_wp2
        go_roundw
        case rel => exact ⟨2, by go_num, by omega, (HG.out.alloc _).drewN _⟩
        case measure => simp [intOf]
      · clear hk
        have qq := HQ.out.2.2.1
        have x0 := up_cell X4.out HG.out
        have y0 := up_cell Y4.out HG.out
        have x1 := up_cell X5.out HG.out
        have y1 := up_cell Y5.out HG.out
        have ltw : wa.heap.size < wr.heap.size := World.block_lt_of_cell? _ _ x0
        have new : ¬ wa.heap.size = wr.heap.size := by omega
        go_wp2
        go_quiet (fail)
        go_wp2
        go_roundw
        case rel => exact ⟨3, by go_num, by omega, (HG.out.alloc _).drewN _⟩
        case measure => simp [intOf]
      · clear hk
        have qq := HQ.out.2.2.2
        have x0 := up_cell X6.out HG.out
        have y0 := up_cell Y6.out HG.out
        have x1 := up_cell X7.out HG.out
        have y1 := up_cell Y7.out HG.out
        have ltw : wa.heap.size < wr.heap.size := World.block_lt_of_cell? _ _ x0
        have new : ¬ wa.heap.size = wr.heap.size := by omega
        go_wp2
        go_quiet (fail)
        go_wp2
        go_roundw
        case rel => exact ⟨4, by go_num, by omega, (HG.out.alloc _).drewN _⟩
        case measure => simp [intOf]
      · go_wp2
        go_ret
        exact ⟨rfl, HGD.out.trans HG.out⟩
end Go.Proofs.Ytincapjbhbmeiaa
