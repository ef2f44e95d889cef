import Derived.Test.YtmhpnogofebbbaaGrid
import Derived.Test.YtmhpnogofebbbaaMM
import Derived.Test.YtmhpnogofebbbaaSqI
import Derived.Test.YtmhpnogofebbbaaOwn
import Derived.Laws.Externs
import Derived.Deep.QuietTactic
import Derived.BigQuiet
import Derived.Defers
import Derived.Recover
namespace Go.Proofs.Ytmhpnogofebbbaa
open Go.ChangeShapes Go.WideShapes Go.ChangeAt Go.RowKit Go.GrowR
set_option linter.unusedVariables false
set_option linter.unusedSimpArgs false
theorem run_bits (x : Nat) (w : World) : (callFunc 14 #[.float .f64 x]).run Try.prog w = .ok (.value (.int .u64 x)) w := by
  rw [run_callFunc_extern (fn := Try.f14) (e := Extern.MathFloatBits.float64bits) Try.func14 (by kernel_rfl) (by kernel_rfl) (by kernel_rfl) (by rfl)]
  rfl
theorem run_frombits (x : Int) (w : World) : (callFunc 13 #[.int .u64 x]).run Try.prog w = .ok (.value (.float .f64 x.toNat)) w := by
  rw [run_callFunc_extern (fn := Try.f13) (e := Extern.MathFloatBits.float64frombits) Try.func13 (by kernel_rfl) (by kernel_rfl) (by kernel_rfl) (by rfl)]
  rfl
theorem abs_calls (x : Nat) (w : World) : Calls Try.prog 6 #[.float .f64 x] w fun e w' => e = .returned (.float .f64 (Fl.absB x)) ∧ w' = w := by
  have hb := run_bits
  have hf := run_frombits
  go_enter Try.func6, Try.ntmps6
  go_wp2
  go_ret
  exact ⟨by rw [Fl.bits_abs]; rfl, rfl⟩
def AllP (b : Bool) (w : World) (e : Ending) (w' : World) : Prop := e = .returned (.bool b) ∧ Grow w w'

theorem run_sqrt {x r : Nat} (h : Fl.D.sqrt x = some r) (w : World) : (callFunc 15 #[.float .f64 x]).run Try.prog w = .ok (.value (.float .f64 r)) w := by
  rw [run_callFunc_extern (fn := Try.f15) (e := Extern.MathSqrt.sqrt) Try.func15 (by kernel_rfl) (by kernel_rfl) (by kernel_rfl) (by rfl)]
  have h' : FloatKind.f64.format.sqrt x = some r := h
  have hE : Extern.MathSqrt.sqrt #[.float .f64 x] = (match FloatKind.f64.format.sqrt x with
    | some r => pure (.float .f64 r)
    | none => do pure (.float .f64 (← choose (.nanBits .f64 x x)))) := rfl
  rw [hE, h']
  rfl
theorem sqrt_calls {x r : Nat} (h : Fl.D.sqrt x = some r) (w : World) : Calls Try.prog 7 #[.float .f64 x] w fun e w' => e = .returned (.float .f64 r) ∧ w' = w := by
  have hs := run_sqrt h
  go_enter Try.func7, Try.ntmps7
  go_wp2
  go_ret
  exact ⟨rfl, rfl⟩
/-- the first n floats of a list are these whole numbers -/
def Nums (xs : List Nat) (n : Nat) (A : Nat → Int) : Prop := xs.length = n ∧ ∀ i, i < n → Fl.IsI (xs.getD i 0) (A i) ∧ -1024 ≤ A i ∧ A i ≤ 1024
theorem nums_of {xs : List Nat} (h : xs.all (Fl.wholeB 1024) = true) : ∃ A, Nums xs xs.length A := by
  have h1 : ∀ i, ∃ a : Int, i < xs.length → Fl.IsI (xs.getD i 0) a ∧ -1024 ≤ a ∧ a ≤ 1024 := by
    intro i
    by_cases hi : i < xs.length
    · have hm : xs.getD i 0 ∈ xs := by rw [List.getD_eq_getElem?_getD, List.getElem?_eq_getElem hi]; exact List.getElem_mem hi
      obtain ⟨a, ha⟩ := Fl.wholeB_true (List.all_eq_true.1 h _ hm)
      exact ⟨a, fun _ => ha⟩
    · exact ⟨0, fun h => absurd h hi⟩
  obtain ⟨A, hA⟩ := Classical.skolem.1 h1
  exact ⟨A, rfl, hA⟩
def sqS (A B : Nat → Int) : Nat → Int
  | 0 => 0
  | k + 1 => sqS A B k + (A k - B k) * (A k - B k)
theorem sq_bd {a b : Int} (h1 : -1024 ≤ a) (h2 : a ≤ 1024) (h3 : -1024 ≤ b) (h4 : b ≤ 1024) : 0 ≤ (a - b) * (a - b) ∧ (a - b) * (a - b) ≤ 4194304 := by
  have h := mul_bound (a := a - b) (b := a - b) (m := 2048) (n := 2048) (by omega) (by omega) (by omega) (by omega)
  refine ⟨?_, by omega⟩
  rcases Int.le_total 0 (a - b) with h5 | h5
  · exact Int.mul_nonneg h5 h5
  · have := Int.mul_nonneg (a := -(a - b)) (b := -(a - b)) (by omega) (by omega)
    rwa [Int.neg_mul_neg] at this
theorem sqS_bd {xs ys : List Nat} {n : Nat} {A B : Nat → Int} (hA : Nums xs n A) (hB : Nums ys n B) : ∀ k, k ≤ n → 0 ≤ sqS A B k ∧ sqS A B k ≤ k * 4194304
  | 0, _ => by simp [sqS]
  | k + 1, hk => by
    have h1 := sqS_bd hA hB k (by omega)
    obtain ⟨-, l1, u1⟩ := hA.2 k (by omega)
    obtain ⟨-, l2, u2⟩ := hB.2 k (by omega)
    have h2 := sq_bd l1 u1 l2 u2
    unfold sqS; omega
theorem sqS_mono {xs ys : List Nat} {n : Nat} {A B : Nat → Int} (hA : Nums xs n A) (hB : Nums ys n B) (k : Nat) : ∀ m, k + m ≤ n → sqS A B k ≤ sqS A B (k + m)
  | 0, _ => Int.le_refl _
  | m + 1, hm => by
    have h1 := sqS_mono hA hB k m (by omega)
    obtain ⟨-, l1, u1⟩ := hA.2 (k + m) (by omega)
    obtain ⟨-, l2, u2⟩ := hB.2 (k + m) (by omega)
    have h2 := sq_bd l1 u1 l2 u2
    have h3 : sqS A B (k + (m + 1)) = sqS A B (k + m) + (A (k + m) - B (k + m)) * (A (k + m) - B (k + m)) := rfl
    generalize (A (k + m) - B (k + m)) * (A (k + m) - B (k + m)) = z at h2 h3
    omega
theorem sqS_ne {xs ys : List Nat} {n : Nat} {A B : Nat → Int} (hA : Nums xs n A) (hB : Nums ys n B) {k : Nat} (hk : k < n) (h : A k ≠ B k) : sqS A B n ≠ 0 := by
  have h1 := sqS_mono hA hB (k + 1) (n - (k + 1)) (by omega)
  rw [show k + 1 + (n - (k + 1)) = n by omega] at h1
  have h2 := (sqS_bd hA hB k (by omega)).1
  have h3 : 0 < (A k - B k) * (A k - B k) := by
    rcases Int.lt_or_gt_of_ne h with h4 | h4
    · have := Int.mul_pos (a := -(A k - B k)) (b := -(A k - B k)) (by omega) (by omega)
      rwa [Int.neg_mul_neg] at this
    · exact Int.mul_pos (by omega) (by omega)
  have h4 : sqS A B (k + 1) = sqS A B k + (A k - B k) * (A k - B k) := rfl
  omega
/-- the floats that come up on the way -/
def fb (op : BinOp) (x y : Nat) : Nat := (floatBits op .f64 x y).getD 0
def sumX (xs ys : List Nat) : Nat → Nat
  | 0 => 0
  | k + 1 => fb .add (sumX xs ys k) (fb .mul (fb .sub (xs.getD k 0) (ys.getD k 0)) (fb .sub (xs.getD k 0) (ys.getD k 0)))
theorem fb_some {op : BinOp} {x y z : Nat} (h : floatBits op .f64 x y = some z) : fb op x y = z := by unfold fb; rw [h]; rfl
theorem sum_step {xs ys : List Nat} {n : Nat} {A B : Nat → Int} (hA : Nums xs n A) (hB : Nums ys n B) (hn : n ≤ 6) {k : Nat} (hk : k < n) (h : Fl.IsI (sumX xs ys k) (sqS A B k)) :
    ∃ d e, floatBits .sub .f64 (xs.getD k 0) (ys.getD k 0) = some d ∧ floatBits .mul .f64 d d = some e ∧ floatBits .add .f64 (sumX xs ys k) e = some (sumX xs ys (k + 1)) ∧ Fl.IsI (sumX xs ys (k + 1)) (sqS A B (k + 1)) := by
  obtain ⟨i1, l1, u1⟩ := hA.2 k hk
  obtain ⟨i2, l2, u2⟩ := hB.2 k hk
  have h2 := sq_bd l1 u1 l2 u2
  have h3 := sqS_bd hA hB k (by omega)
  obtain ⟨d, f1, j1⟩ := Fl.sub_I i1 i2 (by omega)
  obtain ⟨e, f2, j2⟩ := Fl.mul_I j1 j1 (by omega)
  obtain ⟨z, f3, j3⟩ := Fl.add_I h j2 (by omega)
  have hz : sumX xs ys (k + 1) = z := by
    show fb .add (sumX xs ys k) (fb .mul (fb .sub (xs.getD k 0) (ys.getD k 0)) (fb .sub (xs.getD k 0) (ys.getD k 0))) = z
    rw [fb_some f1, fb_some f2, fb_some f3]
  exact ⟨d, e, f1, f2, by rw [hz]; exact f3, by rw [hz]; exact j3⟩
theorem zero_I : Fl.IsI 0 0 := ⟨false, 0, -1074, by decide +kernel, by simp [Fl.dv]⟩
theorem getD_some {xs : List Nat} {i : Nat} (h : i < xs.length) : xs[i]? = some (xs.getD i 0) := by
  rw [List.getD_eq_getElem?_getD, List.getElem?_eq_getElem h]; rfl
def SqP (xs ys : List Nat) (n : Nat) (A B : Nat → Int) (w : World) (e : Ending) (w' : World) : Prop := e = .returned (.float .f64 (sumX xs ys n)) ∧ Fl.IsI (sumX xs ys n) (sqS A B n) ∧ Grow w w'
set_option maxRecDepth 100000 in
set_option maxHeartbeats 2000000 in
theorem squareN_calls (u v : Value) (xs ys : List Nat) (n : Nat) (A B : Nat → Int) (w : World) (hu : FSl u xs w) (hv : FSl v ys w) (hA : Nums xs n A) (hB : Nums ys n B) (hn : n ≤ 6) :
    Calls Try.prog 8 #[u, v] w (SqP xs ys n A B w) := by
  obtain ⟨P, c, rfl, hc, hP⟩ := hu
  obtain ⟨Q, d, rfl, hd, hQ⟩ := hv
  have HP := Lib.hid hP; have HQ := Lib.hid hQ; clear hP hQ
  have HA := Lib.hid hA; have HB := Lib.hid hB
  have HXL := Lib.hid hA.1; have HYL := Lib.hid hB.1
  clear hA hB
  rw [HXL.out, HYL.out]
  go_enter Try.func8, Try.ntmps8
  go_wp2
  go_loopw [5, 10] (fun a i wr => ∃ k : Nat, i = .int .i64 k ∧ k ≤ n ∧ a = .float .f64 (sumX xs ys k) ∧ Fl.IsI (sumX xs ys k) (sqS A B k) ∧ Grow w wr) (fun _ i _ => n - (intOf i).toNat)
  case atStart => exact ⟨0, rfl, Nat.zero_le _, rfl, zero_I, Grow.refl _⟩
  case round =>
    obtain ⟨k, rfl, hk, rfl, hz, hg⟩ := hrel
    have HZ := Lib.hid hz; clear hz
    have HG := Lib.hid hg; clear hg
    by_cases hlt : k < n
    case neg =>
      have e : k = n := by omega
      subst e
      go_wp2
      go_ret
      exact ⟨rfl, HZ.out, HG.out⟩
    case pos =>
      obtain ⟨dd, ee, f1, f2, f3, hz⟩ := sum_step HA.out HB.out hn hlt HZ.out
      have HZ2 := Lib.hid hz; clear hz
      have hx : xs[k]? = some (xs.getD k 0) := getD_some (by rw [HXL.out]; exact hlt)
      have hy : ys[k]? = some (ys.getD k 0) := getD_some (by rw [HYL.out]; exact hlt)
      rcases HP.out with h0 | ⟨b1, o1, rfl, hcell⟩
      · exfalso; rw [h0] at hx; simp at hx
      rcases HQ.out with h0 | ⟨b2, o2, rfl, hcell2⟩
      · exfalso; rw [h0] at hy; simp at hy
      have c1 := up_cell (hcell _ _ hx) HG.out
      have c2 := up_cell (hcell2 _ _ hy) HG.out
      have g1 := fop (P := Try.prog) f1
      have g2 := fop (P := Try.prog) f2
      have g3 := fop (P := Try.prog) f3
      clear f1 f2 f3 hx hy hcell hcell2
      generalize xs.getD k 0 = x at *
      generalize ys.getD k 0 = y at *
      have hk2 : (k : Int) < (n : Int) := by omega
      go_wp2
      go_quiet (fail)
      go_wp2
      exact ⟨⟨k + 1, by go_num, by omega, rfl, HZ2.out, HG.out.drewN _⟩, by simp [intOf]; omega⟩
@[go_sem] theorem asPoint (v : Value) (w : World) : (Instr.typeAssert (.iface 32 v) 38 32 false).run Try.prog w = .ok v w := by kernel_rfl
def DisP (xs ys : List Nat) (n : Nat) (r : Nat) (w : World) (e : Ending) (w' : World) : Prop := e = .returned (.float .f64 r) ∧ Grow w w'
set_option maxRecDepth 100000 in
set_option maxHeartbeats 2000000 in
theorem distance_calls (u v : Value) (xs ys : List Nat) (n : Nat) (A B : Nat → Int) (r : Nat) (w : World) (hu : FSl u xs w) (hv : FSl v ys w) (hA : Nums xs n A) (hB : Nums ys n B) (hn : n ≤ 6) (hr : Fl.D.sqrt (sumX xs ys n) = some r) :
    Calls Try.prog 12 #[u, .iface 32 v] w (DisP xs ys n r w) := by
  obtain ⟨P, c, rfl, hc, hP⟩ := hu
  obtain ⟨Q, d, rfl, hd, hQ⟩ := hv
  have HP := Lib.hid hP; have HQ := Lib.hid hQ; clear hP hQ
  have HA := Lib.hid hA; have HB := Lib.hid hB
  have HXL := Lib.hid hA.1; have HYL := Lib.hid hB.1
  clear hA hB
  rw [HXL.out, HYL.out]
  have HR := Lib.hid hr; clear hr
  go_enter Try.func12, Try.ntmps12
  go_wp2
  go_loopw [6, 14] (fun a i wr => ∃ k : Nat, i = .int .i64 k ∧ k ≤ n ∧ a = .float .f64 (sumX xs ys k) ∧ Fl.IsI (sumX xs ys k) (sqS A B k) ∧ Grow w wr) (fun _ i _ => n - (intOf i).toNat)
  case atStart => exact ⟨0, rfl, Nat.zero_le _, rfl, zero_I, Grow.refl _⟩
  case round =>
    obtain ⟨k, rfl, hk, rfl, hz, hg⟩ := hrel
    have HZ := Lib.hid hz; clear hz
    have HG := Lib.hid hg; clear hg
    by_cases hlt : k < n
    case neg =>
      have e : k = n := by omega
      subst e
      go_wp2_with (go_at_call 7; refine (sqrt_calls HR.out _).mono ?_; rintro e w1 ⟨rfl, rfl⟩)
      go_ret
      exact ⟨rfl, HG.out⟩
    case pos =>
      obtain ⟨dd, ee, f1, f2, f3, hz⟩ := sum_step HA.out HB.out hn hlt HZ.out
      have HZ2 := Lib.hid hz; clear hz
      have hx : xs[k]? = some (xs.getD k 0) := getD_some (by rw [HXL.out]; exact hlt)
      have hy : ys[k]? = some (ys.getD k 0) := getD_some (by rw [HYL.out]; exact hlt)
      rcases HP.out with h0 | ⟨b1, o1, rfl, hcell⟩
      · exfalso; rw [h0] at hx; simp at hx
      rcases HQ.out with h0 | ⟨b2, o2, rfl, hcell2⟩
      · exfalso; rw [h0] at hy; simp at hy
      have c1 := up_cell (hcell _ _ hx) HG.out
      have c2 := up_cell (hcell2 _ _ hy) HG.out
      have g1 := fop (P := Try.prog) f1
      have g2 := fop (P := Try.prog) f2
      have g3 := fop (P := Try.prog) f3
      clear f1 f2 f3 hx hy hcell hcell2
      generalize xs.getD k 0 = x at *
      generalize ys.getD k 0 = y at *
      have hk2 : (k : Int) < (n : Int) := by omega
      go_wp2
      exact ⟨⟨k + 1, by go_num, by omega, rfl, HZ2.out, HG.out⟩, by simp [intOf]; omega⟩
set_option maxRecDepth 100000 in
set_option maxHeartbeats 2000000 in
theorem samePoint_calls (u v : Value) (xs ys : List Nat) (n : Nat) (A B : Nat → Int) (w : World) (hu : FSl u xs w) (hv : FSl v ys w) (hA : Nums xs n A) (hB : Nums ys n B) (hn : n ≤ 6) :
    Calls Try.prog 9 #[u, v] w (AllP (decide (sqS A B n = 0)) w) := by
  obtain ⟨P, c, rfl, hc, hP⟩ := hu
  obtain ⟨Q, d, rfl, hd, hQ⟩ := hv
  have HP := Lib.hid hP; have HQ := Lib.hid hQ; clear hP hQ
  have HA := Lib.hid hA; have HB := Lib.hid hB
  have HXL := Lib.hid hA.1; have HYL := Lib.hid hB.1
  clear hA hB
  rw [HXL.out, HYL.out]
  go_enter Try.func9, Try.ntmps9
  go_wp2
  go_loopw [14] (fun i wr => ∃ k : Nat, i = .int .i64 k ∧ k ≤ n ∧ sqS A B k = 0 ∧ Grow w wr) (fun i _ => n - (intOf i).toNat)
  case atStart => exact ⟨0, rfl, Nat.zero_le _, rfl, Grow.refl _⟩
  case round =>
    obtain ⟨k, rfl, hk, hz, hg⟩ := hrel
    have HZ := Lib.hid hz; clear hz
    have HG := Lib.hid hg; clear hg
    by_cases hlt : k < n
    case neg =>
      have e : k = n := by omega
      subst e
      go_wp2
      go_ret
      exact ⟨by rw [HZ.out]; rfl, HG.out⟩
    case pos =>
      obtain ⟨i1, -, -⟩ := HA.out.2 k hlt
      obtain ⟨i2, -, -⟩ := HB.out.2 k hlt
      have hx : xs[k]? = some (xs.getD k 0) := getD_some (by rw [HXL.out]; exact hlt)
      have hy : ys[k]? = some (ys.getD k 0) := getD_some (by rw [HYL.out]; exact hlt)
      rcases HP.out with h0 | ⟨b1, o1, rfl, hcell⟩
      · exfalso; rw [h0] at hx; simp at hx
      rcases HQ.out with h0 | ⟨b2, o2, rfl, hcell2⟩
      · exfalso; rw [h0] at hy; simp at hy
      have c1 := up_cell (hcell _ _ hx) HG.out
      have c2 := up_cell (hcell2 _ _ hy) HG.out
      have HT := Lib.hid (Fl.eq_V i1 i2)
      clear hx hy hcell hcell2 i1 i2
      generalize xs.getD k 0 = x at *
      generalize ys.getD k 0 = y at *
      have hk2 : (k : Int) < (n : Int) := by omega
      cases he : (FloatKind.f64.format.order x y == some .eq) with
      | true =>
        have he' : (FloatKind.f64.format.order x y != some .eq) = false := by rw [bne, he]; rfl
        have HN : Hid (sqS A B (k + 1) = 0) := by
          have h1 := of_decide_eq_true (HT.out.symm.trans he)
          have h2 : A k = B k := Rat.intCast_inj.1 h1
          show sqS A B k + (A k - B k) * (A k - B k) = 0
          rw [HZ.out, h2, Int.sub_self]; rfl
        clear he
        go_wp2
        exact ⟨⟨k + 1, by go_num, by omega, HN.out, HG.out⟩, by simp [intOf]; omega⟩
      | false =>
        have he' : (FloatKind.f64.format.order x y != some .eq) = true := by rw [bne, he]; rfl
        have HN : Hid (decide (sqS A B n = 0) = false) := by
          have h1 := of_decide_eq_false (HT.out.symm.trans he)
          exact decide_eq_false (sqS_ne HA.out HB.out hlt (fun h => h1 (by rw [h])))
        clear he
        go_wp2
        go_ret
        exact ⟨by rw [HN.out]; rfl, HG.out⟩
theorem idleVD (p0 p1 : Addr) (w : World) :
    CallsD Try.prog 11 #[.pointer (some p0), .pointer (some p1)] .returning w fun e u' w' => e = .returned (.tuple #[]) ∧ u' = .returning ∧ w' = w := by
  refine callsD_of_wpS Try.func11 rfl fun c₀ cs hu => ?_
  apply wpS_seq
  apply wpS_region
  simp [wpOpsS, go_sem, recoverD, hu, Try.ntmps11, Exit.thenS]
  refine wpS_cond (t := false) (by simp [Act.eval, Array.replicate]) ?_
  simp only [Bool.false_eq_true, if_false]
  refine wpS_of_wp ?_
  go_wp2
  cases c₀
  simp_all [bodyPostS, results, Try.results11, Exit.thenS]

def VDP (r : Nat) (w : World) (e : Ending) (w' : World) : Prop := e = .returned (.tuple #[.float .f64 r, .bool true]) ∧ Grow w w'
set_option maxHeartbeats 2000000 in
theorem implVD_calls (u v : Value) (xs ys : List Nat) (n : Nat) (A B : Nat → Int) (r : Nat) (w : World) (hu : FSl u xs w) (hv : FSl v ys w) (hA : Nums xs n A) (hB : Nums ys n B) (hn : n ≤ 6) (hr : Fl.D.sqrt (sumX xs ys n) = some r) :
    Calls Try.prog 5 #[u, v] w (VDP r w) := by
  have hmf : ∀ (fn : Fn) (first cap : Array Value) (w : World), (Instr.makeFunc fn first cap).run Try.prog w = .ok (.func fn first cap) w := fun _ _ _ _ => rfl
  have HD := Lib.hid (fun w' (hg : Grow w w') => distance_calls u v xs ys n A B r w' (FSl.up _ _ hu hg) (FSl.up _ _ hv hg) hA hB hn hr)
  obtain ⟨P, c, rfl, -, -⟩ := hu
  obtain ⟨Q, d, rfl, -, -⟩ := hv
  clear hA hB hr
  go_enter_defers Try.func5, Try.ntmps5
  go_wp2_with fail
  refine (HD.out _ (((Grow.refl w).alloc _).alloc _)).mono ?_
  rintro e w1 ⟨rfl, hg⟩
  have c0 := up_cell (a := ⟨w.heap.size, 0, none⟩) (v := .float .f64 0) (by go_simp) hg
  have c1 := up_cell (a := ⟨w.heap.size + 1, 0, none⟩) (v := .bool false) (by go_simp) hg
  have f0 : w1.frozen? ⟨w.heap.size, 0, none⟩ = false := by rw [grow_frozen hg _ _ (by simp <;> omega)]; go_simp
  have f1 : w1.frozen? ⟨w.heap.size + 1, 0, none⟩ = false := by rw [grow_frozen hg _ _ (by simp <;> omega)]; go_simp
  have HG1 := Lib.hid ((((Grow.refl w).alloc _).alloc _).trans hg); clear hg
  go_wp2
  refine leaves_cons (f := 11) (args := #[.pointer (some ⟨w.heap.size, 0, none⟩), .pointer (some ⟨w.heap.size + 1, 0, none⟩)]) (by simp) (by simp [go_sem]) ?_
  refine (idleVD ⟨w.heap.size, 0, none⟩ ⟨w.heap.size + 1, 0, none⟩ _).mono ?_
  rintro e u' w'' ⟨rfl, rfl, rfl⟩
  exact ⟨.tuple #[.float .f64 r, .bool true], by simp [results, Try.results5, go_sem, c0, c1], rfl, (HG1.out.setCell (by simp) _).setCell (by simp <;> omega) _⟩
noncomputable def wideB (xs ys : List Nat) : Bool := decide (0 < ys.length) && (decide (ys.length ≤ 6) && (gridB 1024 ys.length [xs] && gridB 1024 ys.length [ys]))
theorem wideB_true {xs ys : List Nat} (h : wideB xs ys = true) : ∃ n A B, 1 ≤ n ∧ n ≤ 6 ∧ Nums xs n A ∧ Nums ys n B := by
  unfold wideB gridB rowB at h
  simp only [List.all_cons, List.all_nil, Bool.and_true, Bool.and_eq_true, decide_eq_true_eq, beq_iff_eq] at h
  obtain ⟨h1, h2, ⟨⟨h3, h4⟩, -⟩, ⟨⟨-, h5⟩, -⟩⟩ := h
  obtain ⟨A, hA⟩ := nums_of h4
  obtain ⟨B, hB⟩ := nums_of h5
  rw [h3] at hA
  exact ⟨ys.length, A, B, h1, h2, hA, hB⟩
theorem isI_10 : Fl.IsI 4652218415073722368 1024 := by
  refine ⟨false, 4503599627370496, -42, by decide +kernel, ?_⟩
  simp only [Fl.dv, Bool.false_eq_true, if_false]
  rw [show (4503599627370496 : Nat) = 1024 * 2 ^ 42 from by decide, Rat.natCast_mul, ← Fl.p2_nat, Rat.mul_assoc, ← Fl.p2_add]
  rw [show ((42 : Nat) : Int) + -42 = 0 from by decide, Fl.p2_zero, Rat.mul_one]; rfl
theorem fssl_one {w : World} {b : Nat} {u : Value} {xs : List Nat} (h : w.cell? ⟨b, 0, none⟩ = some u) (hu : FSl u xs w) : FSSl (.slice (some ⟨b, 0, none⟩) 1 1) [xs] w :=
  ⟨_, _, rfl, Nat.le_refl _, .inr ⟨b, 0, rfl, fun i z hi => by
    match i, hi with
    | 0, hi => cases hi; exact ⟨u, h, hu⟩⟩⟩
set_option maxRecDepth 100000 in
set_option maxHeartbeats 2000000 in
theorem wide_calls (b : Nat) (u v : Value) (xs ys : List Nat) (w : World) (hb : w.cell? ⟨b, 0, none⟩ = some u) (hu : FSl u xs w) (hv : FSl v ys w) (hx : xs.length ≤ 2147483647) (hy : ys.length ≤ 2147483647) :
    Calls Try.prog 4 #[.slice (some ⟨b, 0, none⟩) 1 1, v] w (AllP (wideB xs ys) w) := by
  have HS1 := Lib.hid (fssl_one hb hu)
  have HV := Lib.hid hv
  obtain ⟨Q, d, rfl, -, -⟩ := hv
  by_cases h0 : 0 < ys.length
  case neg =>
    have HW : Hid (wideB xs ys = false) := by show _ = _; unfold wideB; rw [decide_eq_false h0]; rfl
    have hz : ys.length = 0 := by omega
    go_enter Try.func4, Try.ntmps4
    go_wp2
    go_ret
    exact ⟨by rw [HW.out]; rfl, Grow.refl _⟩
  by_cases h6 : ys.length ≤ 6
  case neg =>
    have HW : Hid (wideB xs ys = false) := by show _ = _; unfold wideB; rw [decide_eq_false h6, Bool.false_and, Bool.and_false]
    go_enter Try.func4, Try.ntmps4
    go_wp2
    go_ret
    exact ⟨by rw [HW.out]; rfl, Grow.refl _⟩
  have HW : Hid (wideB xs ys = (gridB 1024 ys.length [xs] && gridB 1024 ys.length [ys])) := by show _ = _; unfold wideB; rw [decide_eq_true h0, decide_eq_true h6]; rfl
  have HC1 := Lib.hid (grid_calls _ [xs] ys.length 4652218415073722368 1024 w HS1.out isI_10 (by decide) (by decide) (by simp) (by simp; omega) (by omega))
  have HC2 := Lib.hid (fun b' w' (hg : Grow w w') (hb' : w'.cell? ⟨b', 0, none⟩ = some (.slice Q ys.length d)) => grid_calls _ [ys] ys.length 4652218415073722368 1024 w' (fssl_one hb' (FSl.up _ _ HV.out hg)) isI_10 (by decide) (by decide) (by simp) (by simp; omega) (by omega))
  cases hg1 : gridB 1024 ys.length [xs] with
  | false =>
    have H1 := Lib.hid hg1; clear hg1
    have HE : Hid (wideB xs ys = false) := by show _ = _; rw [HW.out, H1.out]; rfl
    go_enter Try.func4, Try.ntmps4
    go_wp2_with (go_at_call 10; refine HC1.out.mono ?_; rw [H1.out]; rintro e w1 ⟨rfl, rfl⟩)
    go_ret
    exact ⟨by rw [HE.out]; rfl, Grow.refl _⟩
  | true =>
    have H1 := Lib.hid hg1; clear hg1
    have HE : Hid (wideB xs ys = gridB 1024 ys.length [ys]) := by show _ = _; rw [HW.out, H1.out]; rfl
    go_enter Try.func4, Try.ntmps4
    go_wp2_with fail
    refine HC1.out.mono ?_
    rw [H1.out]
    rintro e w1 ⟨rfl, rfl⟩
    go_wp2_with fail
    refine (HC2.out w1.heap.size _ ((Grow.refl _).alloc _) (by go_simp)).mono ?_
    rintro e w2 ⟨rfl, rfl⟩
    go_wp2
    go_ret
    exact ⟨by rw [HE.out]; rfl, (Grow.refl _).alloc _⟩
end Go.Proofs.Ytmhpnogofebbbaa
