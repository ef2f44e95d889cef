import Derived.Test.YtkcpjndelcfmhaaDoorHbH
namespace Go.Proofs.YtkcpjndelcfmhaaDoor
open Go.ChangeShapes Go.WideShapes Go.ChangeAt Go.RowKit Go.GrowR
set_option linter.unusedVariables false
set_option linter.unusedSimpArgs false
set_option maxRecDepth 100000 in
set_option maxHeartbeats 8000000 in
theorem law2 (p : Nat) (hp : p < 4) (hc : ∀ w, Calls Tryd.prog 4 #[.int .i64 2, .int .i64 1, .int .i64 p] w fun e w' => ∃ g, e = .returned (.tuple #[.slice (some ⟨g, 0, none⟩) 2 2, .bool true]) ∧ Grow w w' ∧ IB g (gC 2 p) w')
    (hg : ∀ w, Calls Tryd.prog 6 #[.int .i64 2, .int .i64 p] w (CoQ 2 p w))
    (hpos : ∀ g w, IB g (gC 2 p) w → Calls Tryd.prog 5 #[.int .i64 2, .int .i64 1, .slice (some ⟨g, 0, none⟩) 2 2] w fun e w' => e = .returned (.tuple #[.int .i64 p, .bool true]) ∧ Grow w w') (w : World) :
    Calls Tryd.prog 3 #[.int .i64 2, .int .i64 p] w fun e w' => e = .returned (.bool true) ∧ Grow w w' := by
  have HC := Lib.hid hc; have HGy := Lib.hid hg; have HPq := Lib.hid hpos
  have hp1 : (0 : Int) ≤ (p : Int) := by omega
  have hp2 : (p : Int) < 4 := by omega
  clear hc hg hpos
  go_enter Tryd.func3, Tryd.ntmps3
  go_wp2_with fail
  refine (HC.out _).mono ?_
  rintro e w1 ⟨g, rfl, hg1, hib1⟩
  have HG1 := Lib.hid hg1; have HI1 := Lib.hid hib1
  clear hg1 hib1
  go_wp2_with fail
  refine (HGy.out _).mono ?_
  rintro e w2 ⟨g2, rfl, hg2, hib2⟩
  have HG2 := Lib.hid (HG1.out.trans hg2); have HI1' := Lib.hid (IB.up _ _ HI1.out hg2); have HI2 := Lib.hid hib2
  clear hg2 hib2 HG1 HI1
  go_wp2_with fail
  refine (HPq.out g2 w2 HI2.out).mono ?_
  rintro e w3 ⟨rfl, hg3⟩
  have HG3 := Lib.hid (HG2.out.trans hg3); have HI3 := Lib.hid (IB.up _ _ HI1'.out hg3)
  clear hg3 HG2 HI1'
  go_wp2_with fail
  refine (HGy.out _).mono ?_
  rintro e w4 ⟨g4, rfl, hg4, hib4⟩
  have HG4 := Lib.hid (HG3.out.trans hg4); have HI4 := Lib.hid (IB.up _ _ HI3.out hg4); have HI5 := Lib.hid hib4
  clear hg4 hib4 HG3 HI3
  go_wp2_with fail
  refine (sameInts_calls g g4 2 2 2 (gC 2 p) w4 HI4.out HI5.out (by simp [gC]) (by omega)).mono ?_
  rintro e w5 ⟨rfl, rfl⟩
  go_wp2
  go_ret
  exact ⟨rfl, HG4.out⟩
set_option maxRecDepth 100000 in
set_option maxHeartbeats 8000000 in
theorem law3 (p : Nat) (hp : p < 8) (hc : ∀ w, Calls Tryd.prog 4 #[.int .i64 3, .int .i64 1, .int .i64 p] w fun e w' => ∃ g, e = .returned (.tuple #[.slice (some ⟨g, 0, none⟩) 3 3, .bool true]) ∧ Grow w w' ∧ IB g (gC 3 p) w')
    (hg : ∀ w, Calls Tryd.prog 6 #[.int .i64 3, .int .i64 p] w (CoQ 3 p w))
    (hpos : ∀ g w, IB g (gC 3 p) w → Calls Tryd.prog 5 #[.int .i64 3, .int .i64 1, .slice (some ⟨g, 0, none⟩) 3 3] w fun e w' => e = .returned (.tuple #[.int .i64 p, .bool true]) ∧ Grow w w') (w : World) :
    Calls Tryd.prog 3 #[.int .i64 3, .int .i64 p] w fun e w' => e = .returned (.bool true) ∧ Grow w w' := by
  have HC := Lib.hid hc; have HGy := Lib.hid hg; have HPq := Lib.hid hpos
  have hp1 : (0 : Int) ≤ (p : Int) := by omega
  have hp2 : (p : Int) < 8 := by omega
  clear hc hg hpos
  go_enter Tryd.func3, Tryd.ntmps3
  go_wp2_with fail
  refine (HC.out _).mono ?_
  rintro e w1 ⟨g, rfl, hg1, hib1⟩
  have HG1 := Lib.hid hg1; have HI1 := Lib.hid hib1
  clear hg1 hib1
  go_wp2_with fail
  refine (HGy.out _).mono ?_
  rintro e w2 ⟨g2, rfl, hg2, hib2⟩
  have HG2 := Lib.hid (HG1.out.trans hg2); have HI1' := Lib.hid (IB.up _ _ HI1.out hg2); have HI2 := Lib.hid hib2
  clear hg2 hib2 HG1 HI1
  go_wp2_with fail
  refine (HPq.out g2 w2 HI2.out).mono ?_
  rintro e w3 ⟨rfl, hg3⟩
  have HG3 := Lib.hid (HG2.out.trans hg3); have HI3 := Lib.hid (IB.up _ _ HI1'.out hg3)
  clear hg3 HG2 HI1'
  go_wp2_with fail
  refine (HGy.out _).mono ?_
  rintro e w4 ⟨g4, rfl, hg4, hib4⟩
  have HG4 := Lib.hid (HG3.out.trans hg4); have HI4 := Lib.hid (IB.up _ _ HI3.out hg4); have HI5 := Lib.hid hib4
  clear hg4 hib4 HG3 HI3
  go_wp2_with fail
  refine (sameInts_calls g g4 3 3 3 (gC 3 p) w4 HI4.out HI5.out (by simp [gC]) (by omega)).mono ?_
  rintro e w5 ⟨rfl, rfl⟩
  go_wp2
  go_ret
  exact ⟨rfl, HG4.out⟩
set_option maxRecDepth 100000 in
set_option maxHeartbeats 8000000 in
theorem law4 (p : Nat) (hp : p < 16) (hc : ∀ w, Calls Tryd.prog 4 #[.int .i64 4, .int .i64 1, .int .i64 p] w fun e w' => ∃ g, e = .returned (.tuple #[.slice (some ⟨g, 0, none⟩) 4 4, .bool true]) ∧ Grow w w' ∧ IB g (gC 4 p) w')
    (hg : ∀ w, Calls Tryd.prog 6 #[.int .i64 4, .int .i64 p] w (CoQ 4 p w))
    (hpos : ∀ g w, IB g (gC 4 p) w → Calls Tryd.prog 5 #[.int .i64 4, .int .i64 1, .slice (some ⟨g, 0, none⟩) 4 4] w fun e w' => e = .returned (.tuple #[.int .i64 p, .bool true]) ∧ Grow w w') (w : World) :
    Calls Tryd.prog 3 #[.int .i64 4, .int .i64 p] w fun e w' => e = .returned (.bool true) ∧ Grow w w' := by
  have HC := Lib.hid hc; have HGy := Lib.hid hg; have HPq := Lib.hid hpos
  have hp1 : (0 : Int) ≤ (p : Int) := by omega
  have hp2 : (p : Int) < 16 := by omega
  clear hc hg hpos
  go_enter Tryd.func3, Tryd.ntmps3
  go_wp2_with fail
  refine (HC.out _).mono ?_
  rintro e w1 ⟨g, rfl, hg1, hib1⟩
  have HG1 := Lib.hid hg1; have HI1 := Lib.hid hib1
  clear hg1 hib1
  go_wp2_with fail
  refine (HGy.out _).mono ?_
  rintro e w2 ⟨g2, rfl, hg2, hib2⟩
  have HG2 := Lib.hid (HG1.out.trans hg2); have HI1' := Lib.hid (IB.up _ _ HI1.out hg2); have HI2 := Lib.hid hib2
  clear hg2 hib2 HG1 HI1
  go_wp2_with fail
  refine (HPq.out g2 w2 HI2.out).mono ?_
  rintro e w3 ⟨rfl, hg3⟩
  have HG3 := Lib.hid (HG2.out.trans hg3); have HI3 := Lib.hid (IB.up _ _ HI1'.out hg3)
  clear hg3 HG2 HI1'
  go_wp2_with fail
  refine (HGy.out _).mono ?_
  rintro e w4 ⟨g4, rfl, hg4, hib4⟩
  have HG4 := Lib.hid (HG3.out.trans hg4); have HI4 := Lib.hid (IB.up _ _ HI3.out hg4); have HI5 := Lib.hid hib4
  clear hg4 hib4 HG3 HI3
  go_wp2_with fail
  refine (sameInts_calls g g4 4 4 4 (gC 4 p) w4 HI4.out HI5.out (by simp [gC]) (by omega)).mono ?_
  rintro e w5 ⟨rfl, rfl⟩
  go_wp2
  go_ret
  exact ⟨rfl, HG4.out⟩
end Go.Proofs.YtkcpjndelcfmhaaDoor
