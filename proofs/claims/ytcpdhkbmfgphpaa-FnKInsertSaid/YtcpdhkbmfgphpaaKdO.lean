import Derived.Test.YtcpdhkbmfgphpaaKdN
import Derived.Test.YtcpdhkbmfgphpaaMM
import Derived.Laws.FloatArith
namespace Go.Proofs.Ytcpdhkbmfgphpaa
open Go.ChangeShapes Go.WideShapes Go.ChangeAt Go.RowKit Go.GrowR
set_option linter.unusedVariables false
set_option linter.unusedSimpArgs false

@[go_sem] theorem mDims (v : Value) (w : World) : (method 247 61 v "Dims").run Try.prog w = .ok (89, v) w := by kernel_rfl
@[go_sem] theorem mCmp (v : Value) (w : World) : (method 247 61 v "Compare").run Try.prog w = .ok (88, v) w := by kernel_rfl
@[go_sem] theorem mDist (v : Value) (w : World) : (method 247 61 v "Distance").run Try.prog w = .ok (90, v) w := by kernel_rfl
@[go_sem] theorem nilCmp (A : Option Addr) (n c : Nat) (w : World) : (nilAhead 247 61 (.slice A n c) "Compare").run Try.prog w = .ok (some false) w := by kernel_rfl
@[go_sem] theorem nilDist (A : Option Addr) (n c : Nat) (w : World) : (nilAhead 247 61 (.slice A n c) "Distance").run Try.prog w = .ok (some false) w := by kernel_rfl
@[go_sem] theorem asPoint (v : Value) (w : World) : (Instr.typeAssert (.iface 61 v) 66 61 false).run Try.prog w = .ok v w := by kernel_rfl
/-- the floats of a list are these whole numbers -/
def Num (xs : List Nat) (n : Nat) (A : Nat → Int) : Prop := xs.length = n ∧ ∀ i, i < n → Fl.IsI (xs.getD i 0) (A i) ∧ -1048576 ≤ A i ∧ A i ≤ 1048576
theorem num_of {xs : List Nat} (h : xs.all (Fl.wholeB 1048576) = true) : ∃ A, Num xs xs.length A := by
  have h1 : ∀ i, ∃ a : Int, i < xs.length → Fl.IsI (xs.getD i 0) a ∧ -1048576 ≤ a ∧ a ≤ 1048576 := by
    intro i
    by_cases hi : i < xs.length
    · have hm : xs.getD i 0 ∈ xs := by rw [List.getD_eq_getElem?_getD, List.getElem?_eq_getElem hi]; exact List.getElem_mem hi
      obtain ⟨a, ha⟩ := Fl.wholeB_true (List.all_eq_true.1 h _ hm)
      exact ⟨a, fun _ => ha⟩
    · exact ⟨0, fun h => absurd h hi⟩
  obtain ⟨A, hA⟩ := Classical.skolem.1 h1
  exact ⟨A, rfl, hA⟩
def fb (op : BinOp) (x y : Nat) : Nat := (floatBits op .f64 x y).getD 0
theorem fb_some {op : BinOp} {x y z : Nat} (h : floatBits op .f64 x y = some z) : fb op x y = z := by unfold fb; rw [h]; rfl
theorem sub_num {xs ys : List Nat} {n : Nat} {A B : Nat → Int} (hA : Num xs n A) (hB : Num ys n B) {k : Nat} (hk : k < n) : floatBits .sub .f64 (xs.getD k 0) (ys.getD k 0) = some (fb .sub (xs.getD k 0) (ys.getD k 0)) ∧ Fl.IsI (fb .sub (xs.getD k 0) (ys.getD k 0)) (A k - B k) := by
  obtain ⟨i1, l1, u1⟩ := hA.2 k hk
  obtain ⟨i2, l2, u2⟩ := hB.2 k hk
  obtain ⟨d, f1, j1⟩ := Fl.sub_I i1 i2 (by omega)
  rw [fb_some f1]
  exact ⟨f1, j1⟩
theorem getD_some {xs : List Nat} {i : Nat} (h : i < xs.length) : xs[i]? = some (xs.getD i 0) := by
  rw [List.getD_eq_getElem?_getD, List.getElem?_eq_getElem h]; rfl
def RetN (v : Value) (w : World) (e : Ending) (w' : World) : Prop := e = .returned v ∧ ∃ m, w' = w.drewN m
set_option maxRecDepth 100000 in
set_option maxHeartbeats 2000000 in
theorem compare_calls (u v : Value) (xs ys : List Nat) (n k : Nat) (A B : Nat → Int) (w : World) (hu : FSl u xs w) (hv : FSl v ys w) (hA : Num xs n A) (hB : Num ys n B) (hk : k < n) :
    Calls Try.prog 88 #[u, .iface 61 v, .int .i64 (k : Nat)] w fun e w' => e = .returned (.float .f64 (fb .sub (xs.getD k 0) (ys.getD k 0))) ∧ ∃ m, w' = w.drewN m := by
  have g1 := fop (P := Try.prog) (sub_num hA hB hk).1
  obtain ⟨P, c, rfl, hc, hP⟩ := hu
  obtain ⟨Q, d, rfl, hd, hQ⟩ := hv
  have hxk : k < xs.length := by rw [hA.1]; exact hk
  have hyk : k < ys.length := by rw [hB.1]; exact hk
  obtain ⟨b1, o1, rfl, c1⟩ := FC_at hP (getD_some hxk)
  obtain ⟨b2, o2, rfl, c2⟩ := FC_at hQ (getD_some hyk)
  have h0 : (0 : Int) ≤ (k : Int) := by omega
  have h1 : (k : Int) < (xs.length : Int) := by omega
  have h2 : (k : Int) < (ys.length : Int) := by omega
  clear hA hB hP hQ
  generalize fb .sub (xs.getD k 0) (ys.getD k 0) = z at *
  generalize xs.getD k 0 = x at *
  generalize ys.getD k 0 = y at *
  go_enter Try.func88, Try.ntmps88
  go_wp2
  go_quiet (fail)
  go_wp2
  go_ret
  exact ⟨rfl, _, rfl⟩
theorem dims_calls (u : Value) (xs : List Nat) (w : World) (hu : FSl u xs w) : Calls Try.prog 89 #[u] w fun e w' => e = .returned (.int .i64 (xs.length : Nat)) ∧ w' = w := by
  obtain ⟨P, c, rfl, -, -⟩ := hu
  go_enter Try.func89, Try.ntmps89
  go_wp2
  go_ret
  exact ⟨rfl, rfl⟩
end Go.Proofs.Ytcpdhkbmfgphpaa
