import Derived.Test.YtincapjbhbmeiaaCor3
import Derived.BigQuiet
import Derived.Deep.QuietTactic
namespace Go.Proofs.Ytincapjbhbmeiaa
open Go.ChangeShapes Go.WideShapes Go.ChangeAt Go.RowKit Go.GrowR
set_option linter.unusedVariables false
set_option linter.unusedSimpArgs false
theorem neq3_run {x y z : Nat} {a b c : Int} (hx : Fl.IsI x a) (hy : Fl.IsI y b) (hz : Fl.IsI z c) (w : World) :
    (binOp .neq 30 (P3V x y z) (P3V x y z)).run Try.prog w = .ok (.bool false) w := by
  have h := run_eqS (P := Try.prog) (t := 30) (tf := 22) (z := .float .f64 0) (n := 8) (by kernel_rfl) (by kernel_rfl) (by kernel_rfl) (by kernel_rfl) (l := [("X", 0), ("Y", 1), ("Z", 2)]) (by kernel_rfl) (by decide) [x, y, z] [x, y, z] rfl rfl w
  have e0 : eqF x x = true := Fl.eqB hx hx
  have e1 : eqF y y = true := Fl.eqB hy hy
  have e2 : eqF z z = true := Fl.eqB hz hz
  simp only [List.zip_cons_cons, List.zip_nil_right, List.all_cons, List.all_nil, e0, e1, e2, Bool.and_true] at h
  rw [run_neq_struct]
  change ((Op.equalIn 10000 30 (.agg ([x, y, z].map (Value.float .f64)).toArray) (.agg ([x, y, z].map (Value.float .f64)).toArray)).run Try.prog w).andThen _ = _
  rw [h]; rfl
set_option maxRecDepth 100000 in
set_option maxHeartbeats 4000000 in
theorem fnBoxCorners3_calls (x y z u v t : Nat) (w : World) : Calls Try.prog 6 #[P3V x y z, P3V u v t] w fun e w' => e = .returned (.bool true) ∧ Grow w w' := by
  cases hb : [(x, y, z), (u, v, t)].all p3B with
  | false =>
    have HB := Lib.hid hb; clear hb
    go_enter Try.func6, Try.ntmps6
    go_wp2_with (go_at_call 15; refine (whole3_calls _ 0 _ [(x, y, z), (u, v, t)] _ (p3cells_2 _ _ _ _ _ _ _ _ (by go_simp) (by go_simp) (by go_simp) (by go_simp) (by go_simp) (by go_simp)) (by simp)).mono ?_; rintro e wa ⟨rfl, hga⟩; rw [HB.out])
    go_ret
    exact ⟨rfl, ((((Grow.refl w).alloc _).alloc _).alloc _).trans hga⟩
  | true =>
    have HB := Lib.hid hb
    simp only [List.all_cons, List.all_nil, Bool.and_true, Bool.and_eq_true] at hb
    obtain ⟨a, b, c, ia, a1, a2, ib, b1, b2, ic, c1, c2⟩ := p3B_true hb.1
    obtain ⟨p, q, r, ip, p1, p2, iq, q1, q2, ir, r1, r2⟩ := p3B_true hb.2
    clear hb
    have Q0 := neq3_run ia ib ic
    have Q1 := neq3_run ip ib ic
    have Q2 := neq3_run ip iq ic
    have Q3 := neq3_run ia iq ic
    have Q4 := neq3_run ia ib ir
    have Q5 := neq3_run ip ib ir
    have Q6 := neq3_run ip iq ir
    have Q7 := neq3_run ia iq ir
    clear ia a1 a2 ib b1 b2 ic c1 c2 ip p1 p2 iq q1 q2 ir r1 r2
    have hgd : Try.prog.eqGuardType Try.prog.depth 30 = false := by kernel_rfl
    go_enter Try.func6, Try.ntmps6
    go_wp2_with (go_at_call 15; refine (whole3_calls _ 0 _ [(x, y, z), (u, v, t)] _ (p3cells_2 _ _ _ _ _ _ _ _ (by go_simp) (by go_simp) (by go_simp) (by go_simp) (by go_simp) (by go_simp)) (by simp)).mono ?_; rintro e wa ⟨rfl, hga⟩; rw [HB.out]; have k0 : wa.cell? ⟨w.heap.size, 0, none⟩ = some (.float .f64 x) := up_cell (by go_simp) hga; have k1 : wa.cell? ⟨w.heap.size, 1, none⟩ = some (.float .f64 y) := up_cell (by go_simp) hga; have k2 : wa.cell? ⟨w.heap.size, 2, none⟩ = some (.float .f64 z) := up_cell (by go_simp) hga; have k3 : wa.cell? ⟨w.heap.size + 1, 0, none⟩ = some (.float .f64 u) := up_cell (by go_simp) hga; have k4 : wa.cell? ⟨w.heap.size + 1, 1, none⟩ = some (.float .f64 v) := up_cell (by go_simp) hga; have k5 : wa.cell? ⟨w.heap.size + 1, 2, none⟩ = some (.float .f64 t) := up_cell (by go_simp) hga; have hsz : w.heap.size + 1 + 1 + 1 ≤ wa.heap.size := (by simpa using hga.size); have lt0 : w.heap.size < wa.heap.size := (by omega); have lt1 : w.heap.size + 1 < wa.heap.size := (by omega); have ne0 : ¬ w.heap.size = wa.heap.size := (by omega); have ne1 : ¬ w.heap.size + 1 = wa.heap.size := (by omega))
    have HGA := Lib.hid hga; clear hga
    refine (box3_calls _ _ _ _ _ _ _).mono ?_; rintro e wb ⟨rfl, hgb⟩
    have HGB := Lib.hid hgb
    clear k0 k1 k2 k3 k4 k5
    have W0 := Lib.hid (up_cell (a := ⟨wa.heap.size, 0, none⟩) (v := .float .f64 x) (by go_simp) hgb)
    have W1 := Lib.hid (up_cell (a := ⟨wa.heap.size, 1, none⟩) (v := .float .f64 y) (by go_simp) hgb)
    have W2 := Lib.hid (up_cell (a := ⟨wa.heap.size, 2, none⟩) (v := .float .f64 z) (by go_simp) hgb)
    have W3 := Lib.hid (up_cell (a := ⟨wa.heap.size, 3, none⟩) (v := .float .f64 u) (by go_simp) hgb)
    have W4 := Lib.hid (up_cell (a := ⟨wa.heap.size, 4, none⟩) (v := .float .f64 y) (by go_simp) hgb)
    have W5 := Lib.hid (up_cell (a := ⟨wa.heap.size, 5, none⟩) (v := .float .f64 z) (by go_simp) hgb)
    have W6 := Lib.hid (up_cell (a := ⟨wa.heap.size, 6, none⟩) (v := .float .f64 u) (by go_simp) hgb)
    have W7 := Lib.hid (up_cell (a := ⟨wa.heap.size, 7, none⟩) (v := .float .f64 v) (by go_simp) hgb)
    have W8 := Lib.hid (up_cell (a := ⟨wa.heap.size, 8, none⟩) (v := .float .f64 z) (by go_simp) hgb)
    have W9 := Lib.hid (up_cell (a := ⟨wa.heap.size, 9, none⟩) (v := .float .f64 x) (by go_simp) hgb)
    have W10 := Lib.hid (up_cell (a := ⟨wa.heap.size, 10, none⟩) (v := .float .f64 v) (by go_simp) hgb)
    have W11 := Lib.hid (up_cell (a := ⟨wa.heap.size, 11, none⟩) (v := .float .f64 z) (by go_simp) hgb)
    have W12 := Lib.hid (up_cell (a := ⟨wa.heap.size, 12, none⟩) (v := .float .f64 x) (by go_simp) hgb)
    have W13 := Lib.hid (up_cell (a := ⟨wa.heap.size, 13, none⟩) (v := .float .f64 y) (by go_simp) hgb)
    have W14 := Lib.hid (up_cell (a := ⟨wa.heap.size, 14, none⟩) (v := .float .f64 t) (by go_simp) hgb)
    have W15 := Lib.hid (up_cell (a := ⟨wa.heap.size, 15, none⟩) (v := .float .f64 u) (by go_simp) hgb)
    have W16 := Lib.hid (up_cell (a := ⟨wa.heap.size, 16, none⟩) (v := .float .f64 y) (by go_simp) hgb)
    have W17 := Lib.hid (up_cell (a := ⟨wa.heap.size, 17, none⟩) (v := .float .f64 t) (by go_simp) hgb)
    have W18 := Lib.hid (up_cell (a := ⟨wa.heap.size, 18, none⟩) (v := .float .f64 u) (by go_simp) hgb)
    have W19 := Lib.hid (up_cell (a := ⟨wa.heap.size, 19, none⟩) (v := .float .f64 v) (by go_simp) hgb)
    have W20 := Lib.hid (up_cell (a := ⟨wa.heap.size, 20, none⟩) (v := .float .f64 t) (by go_simp) hgb)
    have W21 := Lib.hid (up_cell (a := ⟨wa.heap.size, 21, none⟩) (v := .float .f64 x) (by go_simp) hgb)
    have W22 := Lib.hid (up_cell (a := ⟨wa.heap.size, 22, none⟩) (v := .float .f64 v) (by go_simp) hgb)
    have W23 := Lib.hid (up_cell (a := ⟨wa.heap.size, 23, none⟩) (v := .float .f64 t) (by go_simp) hgb)
    clear hgb
    go_wp2_with fail
    refine (vert3_calls _ _ _ _ _ _ _).mono ?_
    rintro e wd ⟨O, rfl, hgd2, hown⟩
    have X0 := Lib.hid (up_cell W0.out hgd2)
    have X1 := Lib.hid (up_cell W1.out hgd2)
    have X2 := Lib.hid (up_cell W2.out hgd2)
    have X3 := Lib.hid (up_cell W3.out hgd2)
    have X4 := Lib.hid (up_cell W4.out hgd2)
    have X5 := Lib.hid (up_cell W5.out hgd2)
    have X6 := Lib.hid (up_cell W6.out hgd2)
    have X7 := Lib.hid (up_cell W7.out hgd2)
    have X8 := Lib.hid (up_cell W8.out hgd2)
    have X9 := Lib.hid (up_cell W9.out hgd2)
    have X10 := Lib.hid (up_cell W10.out hgd2)
    have X11 := Lib.hid (up_cell W11.out hgd2)
    have X12 := Lib.hid (up_cell W12.out hgd2)
    have X13 := Lib.hid (up_cell W13.out hgd2)
    have X14 := Lib.hid (up_cell W14.out hgd2)
    have X15 := Lib.hid (up_cell W15.out hgd2)
    have X16 := Lib.hid (up_cell W16.out hgd2)
    have X17 := Lib.hid (up_cell W17.out hgd2)
    have X18 := Lib.hid (up_cell W18.out hgd2)
    have X19 := Lib.hid (up_cell W19.out hgd2)
    have X20 := Lib.hid (up_cell W20.out hgd2)
    have X21 := Lib.hid (up_cell W21.out hgd2)
    have X22 := Lib.hid (up_cell W22.out hgd2)
    have X23 := Lib.hid (up_cell W23.out hgd2)
    clear W0 W1 W2 W3 W4 W5 W6 W7 W8 W9 W10 W11 W12 W13 W14 W15 W16 W17 W18 W19 W20 W21 W22 W23
    have HGD := Lib.hid ((((((((Grow.refl w).alloc _).alloc _).alloc _).trans HGA.out).alloc _).trans HGB.out).trans hgd2)
    clear hgd2
    rcases hown.2 with ⟨_, h0⟩ | ⟨g, cap, cur, rfl, hgB, hh, hn, hm, hs, ht⟩
    · cases h0
    have cel : ∀ (j : Nat) (Q : Value), (cor3 x y z u v t)[j]? = some Q → wd.cell? ⟨g, j, none⟩ = some Q := by
      intro j Q hj
      rw [cell_of_row wd g j cur _ (0, 0) hh]
      rw [← ht, List.getElem?_take] at hj
      split at hj
      · simpa using hj
      · cases hj
    have Y0 := Lib.hid (cel 0 (.float .f64 x) rfl)
    have Y1 := Lib.hid (cel 1 (.float .f64 y) rfl)
    have Y2 := Lib.hid (cel 2 (.float .f64 z) rfl)
    have Y3 := Lib.hid (cel 3 (.float .f64 u) rfl)
    have Y4 := Lib.hid (cel 4 (.float .f64 y) rfl)
    have Y5 := Lib.hid (cel 5 (.float .f64 z) rfl)
    have Y6 := Lib.hid (cel 6 (.float .f64 u) rfl)
    have Y7 := Lib.hid (cel 7 (.float .f64 v) rfl)
    have Y8 := Lib.hid (cel 8 (.float .f64 z) rfl)
    have Y9 := Lib.hid (cel 9 (.float .f64 x) rfl)
    have Y10 := Lib.hid (cel 10 (.float .f64 v) rfl)
    have Y11 := Lib.hid (cel 11 (.float .f64 z) rfl)
    have Y12 := Lib.hid (cel 12 (.float .f64 x) rfl)
    have Y13 := Lib.hid (cel 13 (.float .f64 y) rfl)
    have Y14 := Lib.hid (cel 14 (.float .f64 t) rfl)
    have Y15 := Lib.hid (cel 15 (.float .f64 u) rfl)
    have Y16 := Lib.hid (cel 16 (.float .f64 y) rfl)
    have Y17 := Lib.hid (cel 17 (.float .f64 t) rfl)
    have Y18 := Lib.hid (cel 18 (.float .f64 u) rfl)
    have Y19 := Lib.hid (cel 19 (.float .f64 v) rfl)
    have Y20 := Lib.hid (cel 20 (.float .f64 t) rfl)
    have Y21 := Lib.hid (cel 21 (.float .f64 x) rfl)
    have Y22 := Lib.hid (cel 22 (.float .f64 v) rfl)
    have Y23 := Lib.hid (cel 23 (.float .f64 t) rfl)
    have HQ := Lib.hid (show (∀ w, (binOp .neq 30 (P3V x y z) (P3V x y z)).run Try.prog w = .ok (.bool false) w) ∧ (∀ w, (binOp .neq 30 (P3V u y z) (P3V u y z)).run Try.prog w = .ok (.bool false) w) ∧ (∀ w, (binOp .neq 30 (P3V u v z) (P3V u v z)).run Try.prog w = .ok (.bool false) w) ∧ (∀ w, (binOp .neq 30 (P3V x v z) (P3V x v z)).run Try.prog w = .ok (.bool false) w) ∧ (∀ w, (binOp .neq 30 (P3V x y t) (P3V x y t)).run Try.prog w = .ok (.bool false) w) ∧ (∀ w, (binOp .neq 30 (P3V u y t) (P3V u y t)).run Try.prog w = .ok (.bool false) w) ∧ (∀ w, (binOp .neq 30 (P3V u v t) (P3V u v t)).run Try.prog w = .ok (.bool false) w) ∧ (∀ w, (binOp .neq 30 (P3V x v t) (P3V x v t)).run Try.prog w = .ok (.bool false) w) from ⟨Q0, Q1, Q2, Q3, Q4, Q5, Q6, Q7⟩)
    clear Q0 Q1 Q2 Q3 Q4 Q5 Q6 Q7
    clear cel hown hgB hh hn hm hs ht hsz
    go_wp2
    go_loopw [65] (fun i wr => ∃ k : Nat, i = .int .i64 k ∧ k ≤ 8 ∧ Grow wd wr) (fun i _ => 8 - (intOf i).toNat)
    case atStart => exact ⟨0, rfl, Nat.zero_le _, Grow.refl _⟩
    case round =>
      obtain ⟨k, rfl, hk, hg⟩ := hrel
      have HG := Lib.hid hg; clear hg
      obtain rfl | rfl | rfl | rfl | rfl | rfl | rfl | rfl | rfl : k = 0 ∨ k = 1 ∨ k = 2 ∨ k = 3 ∨ k = 4 ∨ k = 5 ∨ k = 6 ∨ k = 7 ∨ k = 8 := by omega
      · clear hk
        have qq := HQ.out.1
        have x0 := up_cell X0.out HG.out
        have y0 := up_cell Y0.out HG.out
        have x1 := up_cell X1.out HG.out
        have y1 := up_cell Y1.out HG.out
        have x2 := up_cell X2.out HG.out
        have y2 := up_cell Y2.out HG.out
        have ltw : wa.heap.size < wr.heap.size := World.block_lt_of_cell? _ _ x0
        have new : ¬ wa.heap.size = wr.heap.size := by omega
        go_wp2
        go_quiet (fail)
        go_wp2
        go_roundw
        case rel => exact ⟨1, by go_num, by omega, (HG.out.alloc _).drewN _⟩
        case measure => simp [intOf]
      · clear hk
        have qq := HQ.out.2.1
        have x0 := up_cell X3.out HG.out
        have y0 := up_cell Y3.out HG.out
        have x1 := up_cell X4.out HG.out
        have y1 := up_cell Y4.out HG.out
        have x2 := up_cell X5.out HG.out
        have y2 := up_cell Y5.out HG.out
        have ltw : wa.heap.size < wr.heap.size := World.block_lt_of_cell? _ _ x0
        have new : ¬ wa.heap.size = wr.heap.size := by omega
        go_wp2
        go_quiet (fail)
        go_wp2
        go_roundw
        case rel => exact ⟨2, by go_num, by omega, (HG.out.alloc _).drewN _⟩
        case measure => simp [intOf]
      · clear hk
        have qq := HQ.out.2.2.1
        have x0 := up_cell X6.out HG.out
        have y0 := up_cell Y6.out HG.out
        have x1 := up_cell X7.out HG.out
        have y1 := up_cell Y7.out HG.out
        have x2 := up_cell X8.out HG.out
        have y2 := up_cell Y8.out HG.out
        have ltw : wa.heap.size < wr.heap.size := World.block_lt_of_cell? _ _ x0
        have new : ¬ wa.heap.size = wr.heap.size := by omega
        go_wp2
        go_quiet (fail)
        go_wp2
        go_roundw
        case rel => exact ⟨3, by go_num, by omega, (HG.out.alloc _).drewN _⟩
        case measure => simp [intOf]
      · clear hk
        have qq := HQ.out.2.2.2.1
        have x0 := up_cell X9.out HG.out
        have y0 := up_cell Y9.out HG.out
        have x1 := up_cell X10.out HG.out
        have y1 := up_cell Y10.out HG.out
        have x2 := up_cell X11.out HG.out
        have y2 := up_cell Y11.out HG.out
        have ltw : wa.heap.size < wr.heap.size := World.block_lt_of_cell? _ _ x0
        have new : ¬ wa.heap.size = wr.heap.size := by omega
        go_wp2
        go_quiet (fail)
        go_wp2
        go_roundw
        case rel => exact ⟨4, by go_num, by omega, (HG.out.alloc _).drewN _⟩
        case measure => simp [intOf]
      · clear hk
        have qq := HQ.out.2.2.2.2.1
        have x0 := up_cell X12.out HG.out
        have y0 := up_cell Y12.out HG.out
        have x1 := up_cell X13.out HG.out
        have y1 := up_cell Y13.out HG.out
        have x2 := up_cell X14.out HG.out
        have y2 := up_cell Y14.out HG.out
        have ltw : wa.heap.size < wr.heap.size := World.block_lt_of_cell? _ _ x0
        have new : ¬ wa.heap.size = wr.heap.size := by omega
        go_wp2
        go_quiet (fail)
        go_wp2
        go_roundw
        case rel => exact ⟨5, by go_num, by omega, (HG.out.alloc _).drewN _⟩
        case measure => simp [intOf]
      · clear hk
        have qq := HQ.out.2.2.2.2.2.1
        have x0 := up_cell X15.out HG.out
        have y0 := up_cell Y15.out HG.out
        have x1 := up_cell X16.out HG.out
        have y1 := up_cell Y16.out HG.out
        have x2 := up_cell X17.out HG.out
        have y2 := up_cell Y17.out HG.out
        have ltw : wa.heap.size < wr.heap.size := World.block_lt_of_cell? _ _ x0
        have new : ¬ wa.heap.size = wr.heap.size := by omega
        go_wp2
        go_quiet (fail)
        go_wp2
        go_roundw
        case rel => exact ⟨6, by go_num, by omega, (HG.out.alloc _).drewN _⟩
        case measure => simp [intOf]
      · clear hk
        have qq := HQ.out.2.2.2.2.2.2.1
        have x0 := up_cell X18.out HG.out
        have y0 := up_cell Y18.out HG.out
        have x1 := up_cell X19.out HG.out
        have y1 := up_cell Y19.out HG.out
        have x2 := up_cell X20.out HG.out
        have y2 := up_cell Y20.out HG.out
        have ltw : wa.heap.size < wr.heap.size := World.block_lt_of_cell? _ _ x0
        have new : ¬ wa.heap.size = wr.heap.size := by omega
        go_wp2
        go_quiet (fail)
        go_wp2
        go_roundw
        case rel => exact ⟨7, by go_num, by omega, (HG.out.alloc _).drewN _⟩
        case measure => simp [intOf]
      · clear hk
        have qq := HQ.out.2.2.2.2.2.2.2
        have x0 := up_cell X21.out HG.out
        have y0 := up_cell Y21.out HG.out
        have x1 := up_cell X22.out HG.out
        have y1 := up_cell Y22.out HG.out
        have x2 := up_cell X23.out HG.out
        have y2 := up_cell Y23.out HG.out
        have ltw : wa.heap.size < wr.heap.size := World.block_lt_of_cell? _ _ x0
        have new : ¬ wa.heap.size = wr.heap.size := by omega
        go_wp2
        go_quiet (fail)
        go_wp2
        go_roundw
        case rel => exact ⟨8, by go_num, by omega, (HG.out.alloc _).drewN _⟩
        case measure => simp [intOf]
      · go_wp2
        go_ret
        exact ⟨rfl, HGD.out.trans HG.out⟩
end Go.Proofs.Ytincapjbhbmeiaa
