import Derived.Test.YtelfjglhmccecaaOctC
import Derived.Test.YtelfjglhmccecaaFinC
import Derived.Defers
import Derived.Recover
import Derived.OwnWalk
import Derived.ArgAppend
import Derived.Laws.CopyOwn
namespace Go.Proofs.Ytelfjglhmccecaa
open Go.ChangeShapes Go.WideShapes Go.ChangeAt Go.RowKit Go.GrowR
set_option linter.unusedVariables false
set_option linter.unusedSimpArgs false
theorem layStride (lay : Int) (s : Nat) (w : World) (h1 : 1 ≤ lay) (h9 : lay ≤ 9) (hs : strideN lay = s) : Calls Try.prog 130 #[.int .i64 lay] w fun e w' => e = .returned (.int .i64 s) ∧ w' = w := by
  have HS := Lib.hid hs; clear hs
  by_cases e1 : lay = 1
  · subst e1
    have hs := HS.out
    obtain rfl : s = 2 := by have : strideN 1 = 2 := rfl
                             omega
    clear hs
    go_enter Try.func130, Try.ntmps130
    go_wp2
    go_ret
    exact ⟨rfl, rfl⟩
  by_cases e2 : lay = 2
  · subst e2
    have hs := HS.out
    obtain rfl : s = 3 := by have : strideN 2 = 3 := rfl
                             omega
    clear hs
    go_enter Try.func130, Try.ntmps130
    go_wp2
    go_ret
    exact ⟨rfl, rfl⟩
  by_cases e3 : lay = 3
  · subst e3
    have hs := HS.out
    obtain rfl : s = 3 := by have : strideN 3 = 3 := rfl
                             omega
    clear hs
    go_enter Try.func130, Try.ntmps130
    go_wp2
    go_ret
    exact ⟨rfl, rfl⟩
  have hs := HS.out
  obtain rfl : lay = s := by
    unfold strideN at hs
    repeat' split at hs
    all_goals omega
  clear hs
  by_cases e4 : s = 4
  · subst e4
    go_enter Try.func130, Try.ntmps130
    go_wp2
    go_ret
    exact ⟨rfl, rfl⟩
  have f0 : ((s : Int) == 0) = false := by rw [beq_eq_false_iff_ne]; omega
  have f1 : ((s : Int) == 1) = false := by rw [beq_eq_false_iff_ne]; omega
  have f2 : ((s : Int) == 2) = false := by rw [beq_eq_false_iff_ne]; omega
  have f3 : ((s : Int) == 3) = false := by rw [beq_eq_false_iff_ne]; omega
  have f4 : ((s : Int) == 4) = false := by rw [beq_eq_false_iff_ne]; omega
  have g0 : (s == 0) = false := by rw [beq_eq_false_iff_ne]; omega
  have g1 : (s == 1) = false := by rw [beq_eq_false_iff_ne]; omega
  have g2 : (s == 2) = false := by rw [beq_eq_false_iff_ne]; omega
  have g3 : (s == 3) = false := by rw [beq_eq_false_iff_ne]; omega
  have g4 : (s == 4) = false := by rw [beq_eq_false_iff_ne]; omega
  clear e1 e2 e3 e4
  go_enter Try.func130, Try.ntmps130
  go_wp2
  go_ret
  exact ⟨rfl, rfl⟩
set_option maxHeartbeats 1000000 in
/-- a copy of a slice of floats -/
theorem floats_calls (u : Value) (xs : List Nat) (w : World) (hu : FSl u xs w) (hl : xs.length ≤ 1099511627776) :
    Calls Try.prog 68 #[u] w fun e w' => ∃ v, e = .returned v ∧ Grow w w' ∧ VOwn 22 w.heap.size v (xs.map (.float .f64)) w' := by
  obtain ⟨i0, hi, hz0, hz1, hz2⟩ := info_parts infoF_
  have HU := Lib.hid hu; clear hu
  go_enter Try.func68, Try.ntmps68
  go_wp2_with (at_builtin; refine wpList_append_vsl rfl _ _ 28 rfl w.heap.size 22 i0 (.float .f64 0) 8 undF_ hi hz0 hz1 hz2 rfl rfl VOwn.nil rfl HU.out.v (fl_one _) (by simp [maxLen]; omega) (by simp; omega) (Nat.le_refl _) ?_; intro v' w' hown hgrow hwhere)
  go_ret
  exact ⟨_, rfl, grow_of_grown hgrow, by simpa using hown⟩

def HullP (s : Nat) (w : World) (e : Ending) (w' : World) : Prop := ∃ cb, e = .returned (.pointer (some ⟨cb, 0, none⟩)) ∧ w'.cell? ⟨cb, 1, none⟩ = some (.int .i64 s) ∧ Grow w w'
theorem doorHull_calls (lay : Int) (s : Nat) (u : Value) (xs : List Nat) (w : World) (hu : FSl u xs w) (h1 : 1 ≤ lay) (h9 : lay ≤ 9) (hs : strideN lay = s) : Calls Try.prog 124 #[.int .i64 lay, u] w (HullP s w) := by
  have HS := Lib.hid (fun w => layStride lay s w h1 h9 hs); clear hs
  obtain ⟨A, c, rfl, hc, -⟩ := hu
  go_enter Try.func124, Try.ntmps124
  go_wp2_with (go_at_call 130; refine (HS.out _).mono ?_; rintro e w' ⟨rfl, rfl⟩)
  go_ret
  exact ⟨_, rfl, by go_simp, (Grow.refl _).alloc _⟩
set_option maxHeartbeats 2000000 in
theorem doorOct_calls (lay : Int) (u : Value) (xs : List Nat) (s K : Nat) (X Y : Nat → Int) (w : World) (hu : FSl u xs w) (h1 : 1 ≤ lay) (h9 : lay ≤ 9) (hs : strideN lay = s) (hK : xs.length = K * s) (K1 : 1 ≤ K) (K60 : K ≤ 60) (s2 : 2 ≤ s) (s9 : s ≤ 9) (hi : Ints xs s K X Y) :
    Calls Try.prog 69 #[.int .i64 lay, u] w (OctP xs s K X Y w) := by
  have HH := Lib.hid (doorHull_calls lay s u xs w hu h1 h9 hs); clear hs
  have HO := Lib.hid (fun w' cb (hg : Grow w w') (hc : w'.cell? ⟨cb, 1, none⟩ = some (.int .i64 s)) => octPts_calls cb u xs s K X Y w' hc (FSl.up _ _ hu hg) hK K1 K60 s2 s9 hi)
  obtain ⟨A, c, rfl, hc, -⟩ := hu
  clear hi hK
  go_enter Try.func69, Try.ntmps69
  go_wp2_with (first
    | (go_at_call 124; refine HH.out.mono ?_; rintro e w1 ⟨cb, rfl, hcell, hg⟩; have HCB := Lib.hid hcell; have HG := Lib.hid hg; clear hcell hg)
    | (go_at_call 125; refine (HO.out _ _ HG.out HCB.out).mono ?_; rintro e w2 ⟨V, rfl, hV, hg2⟩; have HV := Lib.hid hV; have HG2 := Lib.hid hg2; clear hg2; obtain ⟨A2, c2, rfl, -, -⟩ := hV))
  go_ret
  exact ⟨_, rfl, HV.out, HG.out.trans HG2.out⟩
theorem idleOP (p0 p1 : Addr) (w : World) :
    CallsD Try.prog 67 #[.pointer (some p0), .pointer (some p1)] .returning w fun e u' w' => e = .returned (.tuple #[]) ∧ u' = .returning ∧ w' = w := by
  refine callsD_of_wpS Try.func67 rfl fun c₀ cs hu => ?_
  apply wpS_seq
  apply wpS_region
  simp [wpOpsS, go_sem, recoverD, hu, Try.ntmps67, Exit.thenS]
  refine wpS_cond (t := false) (by simp [Act.eval, Array.replicate]) ?_
  simp only [Bool.false_eq_true, if_false]
  refine wpS_of_wp ?_
  go_wp2
  cases c₀
  simp_all [bodyPostS, results, Try.results67, Exit.thenS]

def OctIP (xs : List Nat) (s K : Nat) (X Y : Nat → Int) (w : World) (e : Ending) (w' : World) : Prop := ∃ V, e = .returned (.tuple #[V, .bool true]) ∧ VOwn 22 w.heap.size V ((octN xs s (fun j => argF (sc X Y j) K) 8).map (.float .f64)) w' ∧ Grow w w'
set_option maxHeartbeats 4000000 in
theorem implOct_calls (lay : Int) (u : Value) (xs : List Nat) (s K : Nat) (X Y : Nat → Int) (w : World) (hu : FSl u xs w) (h1 : 1 ≤ lay) (h9 : lay ≤ 9) (hs : strideN lay = s) (hK : xs.length = K * s) (K1 : 1 ≤ K) (K60 : K ≤ 60) (s2 : 2 ≤ s) (s9 : s ≤ 9) (hi : Ints xs s K X Y) :
    Calls Try.prog 20 #[.int .i64 lay, u] w (OctIP xs s K X Y w) := by
  have hmf : ∀ (fn : Fn) (first cap : Array Value) (w : World), (Instr.makeFunc fn first cap).run Try.prog w = .ok (.func fn first cap) w := fun _ _ _ _ => rfl
  have hle : K * s ≤ 540 := Nat.mul_le_mul K60 s9
  have HF := Lib.hid (fun w' (hg : Grow w w') => floats_calls u xs w' (FSl.up _ _ hu hg) (by omega))
  have HF2 := Lib.hid (fun v w' (hv : FSl v (octN xs s (fun j => argF (sc X Y j) K) 8) w') => floats_calls v _ w' hv (by rw [octN_len]; omega))
  have HD := Lib.hid (fun v w' (hv : FSl v xs w') => doorOct_calls lay v xs s K X Y w' hv h1 h9 hs hK K1 K60 s2 s9 hi)
  obtain ⟨A, c, rfl, hc, -⟩ := hu
  clear hi hK hs
  go_enter_defers Try.func20, Try.ntmps20
  go_wp2_with fail
  refine (HF.out _ (((Grow.refl w).alloc _).alloc _)).mono ?_
  rintro e w1 ⟨V1, rfl, hg1, hown1⟩
  have HO1 := Lib.hid hown1
  have c0 := up_cell (a := ⟨w.heap.size, 0, none⟩) (v := .slice none 0 0) (by go_simp) hg1
  have c1 := up_cell (a := ⟨w.heap.size + 1, 0, none⟩) (v := .bool false) (by go_simp) hg1
  have f0 : w1.frozen? ⟨w.heap.size, 0, none⟩ = false := by rw [grow_frozen hg1 _ _ (by simp <;> omega)]; go_simp
  have f1 : w1.frozen? ⟨w.heap.size + 1, 0, none⟩ = false := by rw [grow_frozen hg1 _ _ (by simp <;> omega)]; go_simp
  have HG1 := Lib.hid ((((Grow.refl w).alloc _).alloc _).trans hg1); clear hg1
  obtain ⟨A1, n1, c1', rfl⟩ := hown1.isSl
  clear hown1
  have L0 := Lib.hid (cell_lt c0); have L1 := Lib.hid (cell_lt c1)
  go_wp2_with fail
  refine (HD.out _ _ (HO1.out.sl.f)).mono ?_
  rintro e w2 ⟨V2, rfl, hV2, hg2⟩
  have HV2 := Lib.hid hV2
  have c0' := up_cell c0 hg2
  have c1'' := up_cell c1 hg2
  have f0' : w2.frozen? ⟨w.heap.size, 0, none⟩ = false := (grow_frozen hg2 _ _ L0.out).trans f0
  have f1' : w2.frozen? ⟨w.heap.size + 1, 0, none⟩ = false := (grow_frozen hg2 _ _ L1.out).trans f1
  have HG2 := Lib.hid (HG1.out.trans hg2); clear hg2 c0 c1 f0 f1 L0 L1
  have L0 := Lib.hid (cell_lt c0'); have L1 := Lib.hid (cell_lt c1'')
  obtain ⟨A2, c2, rfl, -, -⟩ := hV2
  go_wp2_with fail
  refine (HF2.out _ _ HV2.out).mono ?_
  rintro e w3 ⟨V3, rfl, hg3, hown3⟩
  have HO3 := Lib.hid hown3
  have c0 := up_cell c0' hg3
  have c1 := up_cell c1'' hg3
  have f0 : w3.frozen? ⟨w.heap.size, 0, none⟩ = false := (grow_frozen hg3 _ _ L0.out).trans f0'
  have f1 : w3.frozen? ⟨w.heap.size + 1, 0, none⟩ = false := (grow_frozen hg3 _ _ L1.out).trans f1'
  have hsz := HG2.out.size
  have HG3 := Lib.hid (HG2.out.trans hg3); clear hg3 c0' c1'' f0' f1'
  have L2 : w.heap.size + 1 < w2.heap.size := L1.out
  obtain ⟨A3, n3, c3, rfl⟩ := hown3.isSl
  clear hown3
  go_wp2
  refine leaves_cons (f := 67) (args := #[.pointer (some ⟨w.heap.size, 0, none⟩), .pointer (some ⟨w.heap.size + 1, 0, none⟩)]) (by simp) (by simp [go_sem]) ?_
  refine (idleOP ⟨w.heap.size, 0, none⟩ ⟨w.heap.size + 1, 0, none⟩ _).mono ?_
  rintro e u' w'' ⟨rfl, rfl, rfl⟩
  exact ⟨.tuple #[.slice A3 n3 c3, .bool true], by simp [results, Try.results20, go_sem, c0, c1], _, rfl, (VOwn.setCell (VOwn.setCell HO3.out (by simp; omega) _) (by simp; omega) _).mono (by omega), (HG3.out.setCell (by simp) _).setCell (by simp <;> omega) _⟩
end Go.Proofs.Ytelfjglhmccecaa
