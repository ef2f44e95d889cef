import Derived.Test.YtcpdhkbmfgphpaaKdO
namespace Go.Proofs.Ytcpdhkbmfgphpaa
open Go.ChangeShapes Go.WideShapes Go.ChangeAt Go.RowKit Go.GrowR
set_option linter.unusedVariables false
set_option linter.unusedSimpArgs false

def inB (Q A B : Nat → Int) (n : Nat) : Bool := (List.range n).all fun k => decide (A k ≤ Q k) && decide (Q k ≤ B k)
theorem inB_false {Q A B : Nat → Int} {n k : Nat} (hk : k < n) (h : ¬ (A k ≤ Q k ∧ Q k ≤ B k)) : inB Q A B n = false := by
  unfold inB; rw [List.all_eq_false]
  exact ⟨k, List.mem_range.2 hk, by simp only [Bool.and_eq_true, decide_eq_true_eq]; exact h⟩
theorem inB_true {Q A B : Nat → Int} {n : Nat} (h : ∀ k, k < n → A k ≤ Q k ∧ Q k ≤ B k) : inB Q A B n = true := by
  unfold inB; rw [List.all_eq_true]
  intro k hk
  have := h k (List.mem_range.1 hk)
  simp [this]
theorem zero_I : Fl.IsI 0 0 := ⟨false, 0, -1074, by decide +kernel, by simp [Fl.dv]⟩
theorem lt0 {z : Nat} {a : Int} (h : Fl.IsI z a) : (FloatKind.f64.format.order z 0 == some .lt) = decide (a < 0) := by
  rw [Fl.lt_V h zero_I]; exact decide_eq_decide.2 Rat.intCast_lt_intCast
theorem gt0 {z : Nat} {a : Int} (h : Fl.IsI z a) : (FloatKind.f64.format.order 0 z == some .lt) = decide (0 < a) := by
  rw [Fl.lt_V zero_I h]; exact decide_eq_decide.2 Rat.intCast_lt_intCast
theorem quiet_add {P : Program} {f : FuncId} {args : Array Value} {w : World} {a n : Nat} {v : Value}
    (h : Calls P f args (w.drewN (a + n)) fun e w' => e = .returned v ∧ ∃ m, w' = (w.drewN (a + n)).drewN m) :
    Calls P f args (w.drewN (a + n)) fun e w'' => e = .returned v ∧ ∃ m, w'' = w.drewN (a + m) :=
  h.mono fun _ _ ⟨he, m, hm⟩ => ⟨he, n + m, by rw [hm, World.drewN_drewN, Nat.add_assoc]⟩
theorem dims_n {u : Value} {xs : List Nat} {n : Nat} {w : World} (h : xs.length = n) (hu : FSl u xs w) : Calls Try.prog 89 #[u] w fun e w' => e = .returned (.int .i64 (n : Nat)) ∧ w' = w := by subst h; exact dims_calls u xs w hu
set_option maxRecDepth 100000 in
set_option maxHeartbeats 4000000 in
theorem boxHas_calls (u : Value) (xs mn mx : List Nat) (n : Nat) (Q A B : Nat → Int) (v : Value) (F : List Nat) (w : World) (hu : FSl u xs w) (hb : BoxF (some (mn, mx)) v F w) (hQ : Num xs n Q) (hA : Num mn n A) (hB : Num mx n B) (hn : n ≤ 6) :
    Calls Try.prog 47 #[v, .iface 61 u] w (BoolQ (inB Q A B n) w) := by
  have HU := Lib.hid hu
  obtain ⟨bb, P1, P2, rfl, -, ⟨b0, b1, -⟩, o1, o2⟩ := hb
  have HC1 := Lib.hid (fun k (hk : k < n) w' (hg : Grow w w') => compare_calls u P1 xs mn n k Q A w' (FSl.up _ _ hu hg) (FSl.up _ _ o1.sl.f hg) hQ hA hk)
  have HC2 := Lib.hid (fun k (hk : k < n) w' (hg : Grow w w') => compare_calls u P2 xs mx n k Q B w' (FSl.up _ _ hu hg) (FSl.up _ _ o2.sl.f hg) hQ hB hk)
  have HD := Lib.hid (fun w' (hg : Grow w w') => dims_n hQ.1 (FSl.up _ _ hu hg))
  have HI1 := Lib.hid (fun k (hk : k < n) => (sub_num hQ hA hk).2)
  have HI2 := Lib.hid (fun k (hk : k < n) => (sub_num hQ hB hk).2)
  obtain ⟨Au, cu, rfl, -, -⟩ := hu
  clear hQ hA hB o1 o2
  go_enter Try.func47, Try.ntmps47
  go_wp2
  go_loopw [5] (fun i wr => ∃ k : Nat, i = .int .i64 k ∧ k ≤ n ∧ (∀ j, j < k → A j ≤ Q j ∧ Q j ≤ B j) ∧ Grow w wr) (fun i _ => n - (intOf i).toNat)
  case atStart => exact ⟨0, rfl, Nat.zero_le _, fun j hj => absurd hj (by omega), Grow.refl _⟩
  case round =>
    obtain ⟨k, rfl, hk, hal, hgr⟩ := hrel
    have HAL := Lib.hid hal; have HGR := Lib.hid hgr
    clear hal
    by_cases hlt : k < n
    case neg =>
      have HT : Hid (inB Q A B n = true) := inB_true fun j hj => HAL.out j (by omega)
      go_wp2_with (go_at_call 89; refine (HD.out _ HGR.out).mono ?_; rintro e w' ⟨rfl, rfl⟩)
      go_ret
      exact ⟨by rw [HT.out]; rfl, HGR.out⟩
    case pos =>
      have e0 := up_cell b0 hgr
      have e1 := up_cell b1 hgr
      have C1 := Lib.hid (fun m => HC1.out k hlt (wr.drewN m) (HGR.out.drewN m))
      have C2 := Lib.hid (fun m => HC2.out k hlt (wr.drewN m) (HGR.out.drewN m))
      have t1 := lt0 (HI1.out k hlt)
      have t2 := gt0 (HI2.out k hlt)
      have hq1 : IntKind.i64.wrap ((k : Int) + 1) = (k : Int) + 1 := IntWalk.i64_in _ (by omega)
      clear b0 b1 hgr
      generalize fb .sub (xs.getD k 0) (mn.getD k 0) = z1 at *
      generalize fb .sub (xs.getD k 0) (mx.getD k 0) = z2 at *
      by_cases h1 : A k ≤ Q k
      case neg =>
        have HF : Hid (inB Q A B n = false) := inB_false hlt (fun h => h1 h.1)
        rw [decide_eq_true (by omega)] at t1
        clear t2
        go_wp2_with (go_at_call 89; refine (HD.out _ HGR.out).mono ?_; rintro e w' ⟨rfl, rfl⟩)
        go_quiet ((go_at_call 88; exact Calls.quiet_of (C1.out _)))
        go_wp2
        go_ret
        exact ⟨by rw [HF.out]; rfl, HGR.out.drewN _⟩
      by_cases h2 : Q k ≤ B k
      case neg =>
        have HF : Hid (inB Q A B n = false) := inB_false hlt (fun h => h2 h.2)
        rw [decide_eq_false (by omega)] at t1
        rw [decide_eq_true (by omega)] at t2
        go_wp2_with (go_at_call 89; refine (HD.out _ HGR.out).mono ?_; rintro e w' ⟨rfl, rfl⟩)
        go_quiet ((first | (go_at_call 88; with_reducible exact Calls.quiet_of (C1.out _)) | (go_at_call 88; exact Calls.quiet_of (C2.out _))))
        go_wp2
        go_ret
        exact ⟨by rw [HF.out]; rfl, HGR.out.drewN _⟩
      rw [decide_eq_false (by omega)] at t1
      rw [decide_eq_false (by omega)] at t2
      have HN : Hid (∀ j, j < k + 1 → A j ≤ Q j ∧ Q j ≤ B j) := fun j hj => by
        rcases Nat.lt_or_eq_of_le (Nat.lt_succ_iff.1 hj) with h | rfl
        · exact HAL.out j h
        · exact ⟨h1, h2⟩
      go_wp2_with (go_at_call 89; refine (HD.out _ HGR.out).mono ?_; rintro e w' ⟨rfl, rfl⟩)
      go_quiet ((first | (go_at_call 88; with_reducible exact Calls.quiet_of (C1.out _)) | (go_at_call 88; exact Calls.quiet_of (C2.out _))))
      go_wp2
      go_roundw
      case rel => exact ⟨k + 1, by first | go_num | (simp <;> omega), by omega, HN.out, HGR.out.drewN _⟩
      case measure => simp [intOf]; omega
theorem boxNil_calls (v : Value) (w : World) : Calls Try.prog 47 #[.pointer none, v] w (BoolQ true w) := by
  go_enter Try.func47, Try.ntmps47
  go_wp2
  go_ret
  exact ⟨rfl, Grow.refl w⟩
end Go.Proofs.Ytcpdhkbmfgphpaa
