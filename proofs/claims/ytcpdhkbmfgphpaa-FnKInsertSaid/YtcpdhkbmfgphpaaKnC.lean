import Derived.Test.YtcpdhkbmfgphpaaKnB
import Derived.Laws.Externs
namespace Go.Proofs.Ytcpdhkbmfgphpaa
open Go.ChangeShapes Go.WideShapes Go.ChangeAt Go.RowKit Go.GrowR
set_option linter.unusedVariables false
set_option linter.unusedSimpArgs false

theorem run_amin (x y : Nat) (w : World) : (callFunc 65 #[.float .f64 x, .float .f64 y]).run Try.prog w = .ok (.value (.float .f64 (Fl.amin x y))) w := by
  rw [run_callFunc_extern (fn := Try.f65) (e := Extern.MathDim.pick "math.archMin" true .lt) Try.func65 (by kernel_rfl) (by kernel_rfl) (by kernel_rfl) (by rfl)]
  rfl
theorem min_calls (x y : Nat) (w : World) : Calls Try.prog 60 #[.float .f64 x, .float .f64 y] w fun e w' => e = .returned (.float .f64 (Fl.amin x y)) ∧ w' = w := by
  have ht := run_amin x y
  go_enter Try.func60, Try.ntmps60
  go_wp2
  go_ret
  exact ⟨rfl, rfl⟩
theorem run_bits2 (x : Nat) (w : World) : (callFunc 59 #[.int .u64 x]).run Try.prog w = .ok (.value (.float .f64 x)) w := by
  rw [run_callFunc_extern (fn := Try.f59) (e := Extern.MathFloatBits.float64frombits) Try.func59 (by kernel_rfl) (by kernel_rfl) (by kernel_rfl) (by rfl)]
  rfl
theorem inf_calls (w : World) : Calls Try.prog 50 #[.int .i64 1] w fun e w' => e = .returned (.float .f64 Fl.INF) ∧ w' = w := by
  have ht : ∀ w, (callFunc 59 #[.int .u64 9218868437227405312]).run Try.prog w = .ok (.value (.float .f64 Fl.INF)) w := run_bits2 9218868437227405312
  go_enter Try.func50, Try.ntmps50
  go_wp2
  go_ret
  exact ⟨rfl, rfl⟩
def SqP (xs ys : List Nat) (n : Nat) (A B : Nat → Int) (w : World) (e : Ending) (w' : World) : Prop := e = .returned (.float .f64 (sumX xs ys n)) ∧ Grow w w'
set_option maxRecDepth 100000 in
set_option maxHeartbeats 2000000 in
theorem squareN_calls (u v : Value) (xs ys : List Nat) (n : Nat) (A B : Nat → Int) (w : World) (hu : FSl u xs w) (hv : FSl v ys w) (hA : Num xs n A) (hB : Num ys n B) (hn : n ≤ 6) :
    Calls Try.prog 34 #[u, v] w (SqP xs ys n A B w) := by
  obtain ⟨P, c, rfl, hc, hP⟩ := hu
  obtain ⟨Q, d, rfl, hd, hQ⟩ := hv
  have HP := Lib.hid hP; have HQ := Lib.hid hQ; clear hP hQ
  have HA := Lib.hid hA; have HB := Lib.hid hB
  have HXL := Lib.hid hA.1; have HYL := Lib.hid hB.1
  clear hA hB
  rw [HXL.out, HYL.out]
  go_enter Try.func34, Try.ntmps34
  go_wp2
  go_loopw [5, 10] (fun a i wr => ∃ k : Nat, i = .int .i64 k ∧ k ≤ n ∧ a = .float .f64 (sumX xs ys k) ∧ Grow w wr) (fun _ i _ => n - (intOf i).toNat)
  case atStart => exact ⟨0, rfl, Nat.zero_le _, rfl, Grow.refl _⟩
  case round =>
    obtain ⟨k, rfl, hk, rfl, hg⟩ := hrel
    have HG := Lib.hid hg; clear hg
    by_cases hlt : k < n
    case neg =>
      have e : k = n := by omega
      subst e
      go_wp2
      go_ret
      exact ⟨rfl, HG.out⟩
    case pos =>
      obtain ⟨dd, ee, f1, f2, f3, -⟩ := sum_step HA.out HB.out hn hlt (sum_I HA.out HB.out hn k hk)
      have hx : xs[k]? = some (xs.getD k 0) := getD_some (by rw [HXL.out]; exact hlt)
      have hy : ys[k]? = some (ys.getD k 0) := getD_some (by rw [HYL.out]; exact hlt)
      obtain ⟨b1, o1, rfl, hcell⟩ := FC_at HP.out hx
      obtain ⟨b2, o2, rfl, hcell2⟩ := FC_at HQ.out hy
      have c1 := up_cell hcell HG.out
      have c2 := up_cell hcell2 HG.out
      have g1 := fop (P := Try.prog) f1
      have g2 := fop (P := Try.prog) f2
      have g3 := fop (P := Try.prog) f3
      clear f1 f2 f3 hx hy hcell hcell2
      generalize xs.getD k 0 = x at *
      generalize ys.getD k 0 = y at *
      have hk2 : (k : Int) < (n : Int) := by omega
      go_wp2
      go_quiet (fail)
      go_wp2
      exact ⟨⟨k + 1, by go_num, by omega, rfl, HG.out.drewN _⟩, by simp [intOf]; omega⟩
set_option maxRecDepth 100000 in
set_option maxHeartbeats 2000000 in
theorem distance_calls (u v : Value) (xs ys : List Nat) (n : Nat) (A B : Nat → Int) (w : World) (hu : FSl u xs w) (hv : FSl v ys w) (hA : Num xs n A) (hB : Num ys n B) (hn : n ≤ 6) :
    Calls Try.prog 90 #[u, .iface 61 v] w fun e w' => e = .returned (.float .f64 (sumX xs ys n)) ∧ w' = w := by
  obtain ⟨P, c, rfl, hc, hP⟩ := hu
  obtain ⟨Q, d, rfl, hd, hQ⟩ := hv
  have HP := Lib.hid hP; have HQ := Lib.hid hQ; clear hP hQ
  have HA := Lib.hid hA; have HB := Lib.hid hB
  have HXL := Lib.hid hA.1; have HYL := Lib.hid hB.1
  clear hA hB
  rw [HXL.out, HYL.out]
  go_enter Try.func90, Try.ntmps90
  go_wp2
  go_loop [6, 14] (fun a i => ∃ k : Nat, i = .int .i64 k ∧ k ≤ n ∧ a = .float .f64 (sumX xs ys k)) (fun _ i => n - (intOf i).toNat)
  case atStart => exact ⟨0, rfl, Nat.zero_le _, rfl⟩
  case round =>
    obtain ⟨k, rfl, hk, rfl⟩ := hrel
    by_cases hlt : k < n
    case neg =>
      have e : k = n := by omega
      subst e
      go_wp2
      go_ret
      exact ⟨rfl, rfl⟩
    case pos =>
      obtain ⟨dd, ee, f1, f2, f3, -⟩ := sum_step HA.out HB.out hn hlt (sum_I HA.out HB.out hn k hk)
      have hx : xs[k]? = some (xs.getD k 0) := getD_some (by rw [HXL.out]; exact hlt)
      have hy : ys[k]? = some (ys.getD k 0) := getD_some (by rw [HYL.out]; exact hlt)
      obtain ⟨b1, o1, rfl, hcell⟩ := FC_at HP.out hx
      obtain ⟨b2, o2, rfl, hcell2⟩ := FC_at HQ.out hy
      have g1 := fop (P := Try.prog) f1
      have g2 := fop (P := Try.prog) f2
      have g3 := fop (P := Try.prog) f3
      clear f1 f2 f3 hx hy
      generalize xs.getD k 0 = x at *
      generalize ys.getD k 0 = y at *
      have hk2 : (k : Int) < (n : Int) := by omega
      go_wp2
      exact ⟨⟨k + 1, by go_num, by omega, rfl⟩, by simp [intOf]; omega⟩
def eqN (A B : Nat → Int) (n : Nat) : Bool := (List.range n).all fun k => decide (A k = B k)
theorem eqN_false {A B : Nat → Int} {n k : Nat} (hk : k < n) (h : A k ≠ B k) : eqN A B n = false := by
  unfold eqN; rw [List.all_eq_false]
  exact ⟨k, List.mem_range.2 hk, by simpa using h⟩
theorem eqN_true {A B : Nat → Int} {n : Nat} (h : ∀ k, k < n → A k = B k) : eqN A B n = true := by
  unfold eqN; rw [List.all_eq_true]
  intro k hk
  simp [h k (List.mem_range.1 hk)]
theorem eqBI {x y : Nat} {a b : Int} (hx : Fl.IsI x a) (hy : Fl.IsI y b) : (FloatKind.f64.format.order x y == some .eq) = decide (a = b) := by
  rw [Fl.order_I hx hy]
  rcases Int.lt_trichotomy a b with h | h | h
  · rw [Int.compare_eq_lt.2 h, decide_eq_false (by omega)]; rfl
  · subst h; rw [Int.compare_eq_eq.2 rfl, decide_eq_true rfl]; rfl
  · rw [Int.compare_eq_gt.2 h, decide_eq_false (by omega)]; rfl
theorem neBI {x y : Nat} {a b : Int} (hx : Fl.IsI x a) (hy : Fl.IsI y b) : (FloatKind.f64.format.order x y != some .eq) = decide (a ≠ b) := by
  have := eqBI hx hy
  unfold bne
  rw [this]
  by_cases h : a = b <;> simp [h]
set_option maxRecDepth 100000 in
set_option maxHeartbeats 2000000 in
theorem samePoint_calls (u v : Value) (xs ys : List Nat) (n : Nat) (A B : Nat → Int) (w : World) (hu : FSl u xs w) (hv : FSl v ys w) (hA : Num xs n A) (hB : Num ys n B) (hn : n ≤ 6) :
    Calls Try.prog 20 #[u, v] w (BoolQ (eqN A B n) w) := by
  obtain ⟨P, c, rfl, hc, hP⟩ := hu
  obtain ⟨Q, d, rfl, hd, hQ⟩ := hv
  have HP := Lib.hid hP; have HQ := Lib.hid hQ; clear hP hQ
  have HA := Lib.hid hA; have HB := Lib.hid hB
  have HXL := Lib.hid hA.1; have HYL := Lib.hid hB.1
  clear hA hB
  rw [HXL.out, HYL.out]
  go_enter Try.func20, Try.ntmps20
  go_wp2
  go_loopw [14] (fun i wr => ∃ k : Nat, i = .int .i64 k ∧ k ≤ n ∧ (∀ j, j < k → A j = B j) ∧ Grow w wr) (fun i _ => n - (intOf i).toNat)
  case atStart => exact ⟨0, rfl, Nat.zero_le _, fun j hj => absurd hj (by omega), Grow.refl _⟩
  case round =>
    obtain ⟨k, rfl, hk, hz, hg⟩ := hrel
    have HZ := Lib.hid hz; clear hz
    have HG := Lib.hid hg; clear hg
    by_cases hlt : k < n
    case neg =>
      have HT : Hid (eqN A B n = true) := eqN_true fun j hj => HZ.out j (by omega)
      go_wp2
      go_ret
      exact ⟨by rw [HT.out]; rfl, HG.out⟩
    case pos =>
      obtain ⟨i1, -, -⟩ := HA.out.2 k hlt
      obtain ⟨i2, -, -⟩ := HB.out.2 k hlt
      have hx : xs[k]? = some (xs.getD k 0) := getD_some (by rw [HXL.out]; exact hlt)
      have hy : ys[k]? = some (ys.getD k 0) := getD_some (by rw [HYL.out]; exact hlt)
      obtain ⟨b1, o1, rfl, hcell⟩ := FC_at HP.out hx
      obtain ⟨b2, o2, rfl, hcell2⟩ := FC_at HQ.out hy
      have c1 := up_cell hcell HG.out
      have c2 := up_cell hcell2 HG.out
      have ht := neBI i1 i2
      have ht' := eqBI i1 i2
      clear hx hy hcell hcell2 i1 i2
      generalize xs.getD k 0 = x at *
      generalize ys.getD k 0 = y at *
      have hk2 : (k : Int) < (n : Int) := by omega
      by_cases he : A k = B k
      · have HN : Hid (∀ j, j < k + 1 → A j = B j) := fun j hj => by
          rcases Nat.lt_or_eq_of_le (Nat.lt_succ_iff.1 hj) with h | rfl
          · exact HZ.out j h
          · exact he
        rw [decide_eq_false (by omega)] at ht
        rw [decide_eq_true he] at ht'
        clear he
        go_wp2
        exact ⟨⟨k + 1, by go_num, by omega, HN.out, HG.out⟩, by simp [intOf]; omega⟩
      · have HF : Hid (eqN A B n = false) := eqN_false hlt he
        rw [decide_eq_true he] at ht
        rw [decide_eq_false he] at ht'
        clear he
        go_wp2
        go_ret
        exact ⟨by rw [HF.out]; rfl, HG.out⟩
end Go.Proofs.Ytcpdhkbmfgphpaa
