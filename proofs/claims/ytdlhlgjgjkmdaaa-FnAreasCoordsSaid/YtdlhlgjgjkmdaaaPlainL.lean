import Derived.Test.YtdlhlgjgjkmdaaaGeoD
import Derived.Test.YtdlhlgjgjkmdaaaPlainF
namespace Go.Proofs.Ytdlhlgjgjkmdaaa
open Go.ChangeShapes Go.WideShapes Go.ChangeAt Go.RowKit Go.GrowR
set_option linter.unusedVariables false
set_option linter.unusedSimpArgs false

/-- what gPlain tells of a geometry *)-/
def PlQ (g : GT) (k : Int) (K : Int → Prop) (w : World) (e : Ending) (w' : World) : Prop := ∃ r : Bool, e = .returned (.bool r) ∧ Grow w w' ∧ (r = true → GGood g ∧ K k)
theorem PlQ.no {g : GT} {k : Int} {K : Int → Prop} {w w' : World} (h : Grow w w') : PlQ g k K w (.returned (.bool false)) w' := ⟨false, rfl, h, fun h => by cases h⟩
set_option maxRecDepth 100000 in
set_option maxHeartbeats 4000000 in
theorem gPlain_calls (k l r : Int) (fl : List Nat) (en : List Int) (ens : List (List Int)) (kids : List GT) (gv : Value) (w : World) (hr : Reach44 (.mk k l r fl en ens kids)) (hv : GV (.mk k l r fl en ens kids) gv w) : Calls Try.prog 34 #[gv] w (PlQ (.mk k l r fl en ens kids) k (· ≠ 7) w) := by
  obtain ⟨k0, l0, r0, fl0, en0, ens0, kids0, A1, c1, A2, c2, A3, c3, A4, c4, he, rfl, -, -, -⟩ := hv.seven
  cases he
  have HGG := Lib.hid (fun b c0 w' (hw : Grow w w') h7 => gGoodT _ b c0 _ _ _ _ _ _ _ _ _ _ _ _ _ _ _ w' hr h7 (GV.up _ _ _ _ hv hw))
  clear hv hr
  go_enter Try.func34, Try.ntmps34
  go_wp2_with fail
  have HA := Lib.hid ((((Grow.refl w).alloc (Obj.cells #[.int .i64 k, .int .i64 l, .int .i64 r, .slice A1 fl.length c1, .slice A2 en.length c2, .slice A3 ens.length c3, .slice A4 kids.length c4] 27)).alloc (Obj.cells #[.int .i64 k, .int .i64 l, .int .i64 r, .slice A1 fl.length c1, .slice A2 en.length c2, .slice A3 ens.length c3, .slice A4 kids.length c4] 27)))
  refine (HGG.out (w.heap.size + 1) _ _ HA.out ⟨by go_simp, by go_simp, by go_simp, by go_simp, by go_simp, by go_simp, by go_simp⟩).mono ?_
  rintro e w1 ⟨r1, rfl, hg1, hr1⟩
  have q0 := up_cell (a := ⟨w.heap.size, 0, none⟩) (v := .int .i64 k) (by go_simp) hg1
  have HG1 := Lib.hid (HA.out.trans hg1)
  have HR1 := Lib.hid hr1
  clear hg1 hr1
  cases r1 with
  | false =>
    clear q0
    go_wp2
    go_ret
    exact PlQ.no HG1.out
  | true =>
    have H1 := Lib.hid (HR1.out (by first | rfl | trivial))
    by_cases h7 : k = 7
    · subst h7
      go_wp2
      go_ret
      exact PlQ.no HG1.out
    · have e7 : (k != 7) = true := by simpa using h7
      have H7 := Lib.hid h7
      clear h7
      go_wp2
      go_ret
      exact ⟨_, rfl, HG1.out, fun _ => ⟨H1.out, H7.out⟩⟩

set_option maxRecDepth 100000 in
set_option maxHeartbeats 4000000 in
theorem gTurns_calls (k l r : Int) (fl : List Nat) (en : List Int) (ens : List (List Int)) (kids : List GT) (gv : Value) (w : World) (hr : Reach44 (.mk k l r fl en ens kids)) (hv : GV (.mk k l r fl en ens kids) gv w) : Calls Try.prog 28 #[gv] w (PlQ (.mk k l r fl en ens kids) k (fun k => k ≠ 7 ∧ k ≠ 1) w) := by
  have HGG := Lib.hid (fun w' (hw : Grow w w') => gPlain_calls k l r fl en ens kids gv w' hr (GV.up _ _ _ _ hv hw))
  obtain ⟨k0, l0, r0, fl0, en0, ens0, kids0, A1, c1, A2, c2, A3, c3, A4, c4, he, rfl, -, -, -⟩ := hv.seven
  cases he
  clear hv hr
  go_enter Try.func28, Try.ntmps28
  go_wp2_with fail
  have HA := Lib.hid ((Grow.refl w).alloc (Obj.cells #[.int .i64 k, .int .i64 l, .int .i64 r, .slice A1 fl.length c1, .slice A2 en.length c2, .slice A3 ens.length c3, .slice A4 kids.length c4] 27))
  refine (HGG.out _ HA.out).mono ?_
  rintro e w1 ⟨r1, rfl, hg1, hr1⟩
  have q0 := up_cell (a := ⟨w.heap.size, 0, none⟩) (v := .int .i64 k) (by go_simp) hg1
  have HG1 := Lib.hid (HA.out.trans hg1)
  have HR1 := Lib.hid hr1
  clear hg1 hr1
  cases r1 with
  | false =>
    clear q0
    go_wp2
    go_ret
    exact PlQ.no HG1.out
  | true =>
    have H1 := Lib.hid (HR1.out (by first | rfl | trivial))
    by_cases h7 : k = 1
    · subst h7
      go_wp2
      go_ret
      exact PlQ.no HG1.out
    · have e7 : (k != 1) = true := by simpa using h7
      have H7 := Lib.hid h7
      clear h7
      go_wp2
      go_ret
      exact ⟨_, rfl, HG1.out, fun _ => ⟨H1.out.1, H1.out.2, H7.out⟩⟩
end Go.Proofs.Ytdlhlgjgjkmdaaa
