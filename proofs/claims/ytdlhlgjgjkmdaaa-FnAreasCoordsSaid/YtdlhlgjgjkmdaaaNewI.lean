import Derived.Test.YtdlhlgjgjkmdaaaPlainC
import Derived.RegionTactic
import Derived.ChangeAlike
import Derived.Defers
import Derived.Recover
namespace Go.Proofs.Ytdlhlgjgjkmdaaa
open Go.ChangeShapes Go.WideShapes Go.ChangeAt Go.RowKit Go.GrowR
set_option linter.unusedVariables false
set_option linter.unusedSimpArgs false
theorem idleNew (p0 p1 : Addr) (w : World) :
    CallsD Try.prog 53 #[.pointer (some p0), .pointer (some p1)] .returning w fun e u' w' => e = .returned (.tuple #[]) ∧ u' = .returning ∧ w' = w := by
  refine callsD_of_wpS Try.func53 rfl fun c₀ cs hu => ?_
  apply wpS_seq
  apply wpS_region
  simp [wpOpsS, go_sem, recoverD, hu, Try.ntmps53, Exit.thenS]
  refine wpS_cond (t := false) (by simp [Act.eval, Array.replicate]) ?_
  simp only [Bool.false_eq_true, if_false]
  refine wpS_of_wp ?_
  go_wp2
  cases c₀
  simp_all [bodyPostS, results, Try.results53, Exit.thenS]

def NewR (g : GT) (w : World) (e : Ending) (w' : World) : Prop := ∃ v, e = .returned (.tuple #[v, .bool true]) ∧ Grow w w' ∧ GV g v w'
set_option maxRecDepth 100000 in
set_option maxHeartbeats 8000000 in
theorem new_calls (g : GT) (k l r : Int) (A1 : Option Addr) (n1 c1 : Nat) (A2 : Option Addr) (n2 c2 : Nat) (A3 : Option Addr) (n3 c3 : Nat) (A4 : Option Addr) (n4 c4 : Nat) (w : World) (hgood : GoodF g) (hr : Reach44 g) (hge : ∀ w', Grow w w' → Calls Try.prog 45 #[Geo7 k l r A1 n1 c1 A2 n2 c2 A3 n3 c3 A4 n4 c4] w' (GQ g w')) :
    Calls Try.prog 23 #[Geo7 k l r A1 n1 c1 A2 n2 c2 A3 n3 c3 A4 n4 c4] w (NewR g w) := by
  have hmf : ∀ (fn : Fn) (first cap : Array Value) (w : World), (Instr.makeFunc fn first cap).run Try.prog w = .ok (.func fn first cap) w := fun _ _ _ _ => rfl
  have HGE := Lib.hid hge; have HGO := Lib.hid hgood; have HRR := Lib.hid hr
  clear hge hgood hr
  go_enter_defers Try.func23, Try.ntmps23
  go_wp2_with fail
  refine (HGE.out _ ((((Grow.refl w).alloc _).alloc _).alloc _)).mono ?_
  rintro e w1 ⟨v, rfl, hg1, hst⟩
  have HTV := Lib.hid hst.now
  have HG1 := Lib.hid hg1
  clear hst hg1
  go_wp2_with fail
  refine (implPlain _ _ _ HGO.out HRR.out HTV.out).mono ?_
  rintro e w2 ⟨v2, rfl, hg2, hst2⟩
  obtain ⟨k', l', r', A1', n1', c1', A2', n2', c2', A3', n3', c3', A4', n4', c4', rfl⟩ := hst2.now.form
  have HST := Lib.hid hst2
  have hg := HG1.out.trans hg2
  have hsz := HG1.out.size
  simp at hsz
  have y0 := up_cell (a := ⟨w.heap.size + 1, 0, none⟩) (v := .int .i64 0) (by go_simp) hg
  have y1 := up_cell (a := ⟨w.heap.size + 1, 1, none⟩) (v := .int .i64 0) (by go_simp) hg
  have y2 := up_cell (a := ⟨w.heap.size + 1, 2, none⟩) (v := .int .i64 0) (by go_simp) hg
  have y3 := up_cell (a := ⟨w.heap.size + 1, 3, none⟩) (v := .slice none 0 0) (by go_simp) hg
  have y4 := up_cell (a := ⟨w.heap.size + 1, 4, none⟩) (v := .slice none 0 0) (by go_simp) hg
  have y5 := up_cell (a := ⟨w.heap.size + 1, 5, none⟩) (v := .slice none 0 0) (by go_simp) hg
  have y6 := up_cell (a := ⟨w.heap.size + 1, 6, none⟩) (v := .slice none 0 0) (by go_simp) hg
  have y7 := up_cell (a := ⟨w.heap.size + 1 + 1, 0, none⟩) (v := .bool false) (by go_simp) hg
  have f1 : ∀ o, w2.frozen? ⟨w.heap.size + 1, o, none⟩ = false := fun o => (grow_frozen hg _ _ (by simp <;> omega)).trans (by go_simp)
  have f2 : w2.frozen? ⟨w.heap.size + 1 + 1, 0, none⟩ = false := (grow_frozen hg _ _ (by simp <;> omega)).trans (by go_simp)
  have HG := Lib.hid ((((((Grow.refl w).alloc _).alloc _).alloc _)).trans hg)
  have HSZ := Lib.hid hsz
  clear hg hg2 hst2 hsz
  go_wp2
  refine leaves_cons (f := 53) (args := #[.pointer (some ⟨w.heap.size + 1, 0, none⟩), .pointer (some ⟨w.heap.size + 1 + 1, 0, none⟩)]) (by simp) (by simp [go_sem]) ?_
  refine (idleNew ⟨w.heap.size + 1, 0, none⟩ ⟨w.heap.size + 1 + 1, 0, none⟩ _).mono ?_
  rintro e u' w'' ⟨rfl, rfl, rfl⟩
  have hB := HSZ.out
  refine ⟨.tuple #[Geo7 k' l' r' A1' n1' c1' A2' n2' c2' A3' n3' c3' A4' n4' c4', .bool true], by simp [results, Try.results23, go_sem, y0, y1, y2, y3, y4, y5, y6, y7], _, rfl, ((((((((HG.out).setCell (by simp <;> omega) _).setCell (by simp <;> omega) _).setCell (by simp <;> omega) _).setCell (by simp <;> omega) _).setCell (by simp <;> omega) _).setCell (by simp <;> omega) _).setCell (by simp <;> omega) _).setCell (by simp <;> omega) _, (HST.out.move fun k k1 k2 => ?_).now⟩
  have hne : w.heap.size + 1 ≠ k := by omega
  have hne' : k ≠ w.heap.size + 1 := by omega
  have hne2 : w.heap.size + 1 + 1 ≠ k := by omega
  have hne2' : k ≠ w.heap.size + 1 + 1 := by omega
  iterate 8 rw [Below.heap_setCell _ _ _ _ (by first | exact hne | exact hne' | exact hne2 | exact hne2')]
end Go.Proofs.Ytdlhlgjgjkmdaaa
