import Derived.Test.YtdcchejehomicaaTsP
import Derived.Test.YtdcchejehomicaaTsK
import Derived.BigQuiet
import Derived.Deep.QuietTactic
import Derived.Deep.Cut
namespace Go.Proofs.Ytdcchejehomicaa
open Go.ChangeShapes Go.WideShapes Go.ChangeAt Go.RowKit Go.GrowR
set_option linter.unusedVariables false
set_option linter.unusedSimpArgs false

@[go_sem] theorem mEq (c : Int) (w : World) : (method 187 43 (.int .i64 c) "IsEquals").run Try.prog w = .ok (44, .int .i64 c) w := by kernel_rfl
@[go_sem] theorem mLs (c : Int) (w : World) : (method 187 43 (.int .i64 c) "IsLess").run Try.prog w = .ok (45, .int .i64 c) w := by kernel_rfl
@[go_sem] theorem nilEq (c : Int) (w : World) : (nilAhead 187 43 (.int .i64 c) "IsEquals").run Try.prog w = .ok (some false) w := by kernel_rfl
@[go_sem] theorem nilLs (c : Int) (w : World) : (nilAhead 187 43 (.int .i64 c) "IsLess").run Try.prog w = .ok (some false) w := by kernel_rfl
theorem axes_calls (c : Int) (A : Option Addr) (n cap : Nat) (w : World) : Calls Try.prog 46 #[.int .i64 c, .slice A n cap] w fun e w' => e = .returned (.int .i64 (axN c n : Nat)) ∧ w' = w := by
  by_cases h1 : c = 1
  · subst h1
    go_enter Try.func46, Try.ntmps46
    go_wp2
    go_ret
    exact ⟨rfl, rfl⟩
  by_cases h2 : c = 2
  · subst h2
    go_enter Try.func46, Try.ntmps46
    go_wp2
    go_ret
    exact ⟨rfl, rfl⟩
  have b1 : (c == 1) = false := by simpa using h1
  have b2 : (c == 2) = false := by simpa using h2
  have HX : Hid (axN c n = 2) := by show _ = _; unfold axN; rw [if_neg h1, if_neg h2]
  clear h1 h2
  go_enter Try.func46, Try.ntmps46
  go_wp2
  go_ret
  exact ⟨by rw [HX.out]; rfl, rfl⟩
theorem axN_le (c : Int) {n : Nat} (h : 2 ≤ n) : axN c n ≤ n := by unfold axN; split; omega; split; omega; omega
theorem getD_at {xs : List Nat} {i : Nat} (h : i < xs.length) : xs[i]? = some (xs.getD i 0) := by
  rw [List.getD_eq_getElem?_getD, List.getElem?_eq_getElem h]; rfl
theorem fcell {A : Option Addr} {n c : Nat} {xs : List Nat} {w : World} (h : FSl (.slice A n c) xs w) {i : Nat} (hi : i < n) : ∃ b o, A = some ⟨b, o, none⟩ ∧ w.cell? ⟨b, o + i, none⟩ = some (.float .f64 (xs.getD i 0)) := by
  obtain ⟨A', c', he, hc, hx⟩ := h
  simp only [Value.slice.injEq] at he
  obtain ⟨rfl, rfl, rfl⟩ := he
  rcases hx with h0 | ⟨b, o, rfl, hx⟩
  · subst h0; simp at hi
  · exact ⟨b, o, rfl, hx i _ (getD_at hi)⟩
def BlD (r : Bool) (w : World) (e : Ending) (w' : World) : Prop := e = .returned (.bool r) ∧ ∃ m, w' = w.drewN m
theorem BlD.mk {r r' : Bool} {w : World} (m : Nat) (h : r = r') : BlD r w (.returned (.bool r')) (w.drewN m) := ⟨by rw [h], m, rfl⟩
theorem drewN_add (w : World) (a b : Nat) : (w.drewN a).drewN b = w.drewN (a + b) := by simp [World.drewN, Nat.add_assoc]
theorem drew_N (w : World) (a : Nat) : (w.drewN a).drew = w.drewN (a + 1) := by simp [World.drewN, World.drew, Nat.add_assoc]
set_option maxRecDepth 100000 in
set_option maxHeartbeats 4000000 in
theorem isEq_calls (c : Int) (A B : Option Addr) (n c1 c2 : Nat) (x y : List Nat) (w : World) (hu : FSl (.slice A n c1) x w) (hv : FSl (.slice B n c2) y w) (hx : n = x.length) (h2 : 2 ≤ n) (h9 : n ≤ 9) :
    Calls Try.prog 44 #[.int .i64 c, .slice A n c1, .slice B n c2] w (BlD (eqC c x y) w) := by
  have HU := Lib.hid hu; have HV := Lib.hid hv
  obtain ⟨N, hN⟩ : ∃ N, N = axN c n := ⟨_, rfl⟩
  have hNn : N ≤ n := by rw [hN]; exact axN_le c h2
  have HAX : Hid (∀ w, Calls Try.prog 46 #[.int .i64 c, .slice A n c1] w fun e w' => e = .returned (.int .i64 (N : Nat)) ∧ w' = w) := fun w => by rw [hN]; exact axes_calls c A n c1 w
  have HR : Hid (eqC c x y = eqR x y N 0) := by show _ = _; unfold eqC; rw [hN, hx]
  clear hu hv hN hx
  go_enter Try.func44, Try.ntmps44
  go_wp2
  go_loopw [7] (fun i wr => ∃ k m : Nat, i = .int .i64 k ∧ k ≤ N ∧ wr = w.drewN m ∧ eqR x y N 0 = eqR x y (N - k) k) (fun i _ => N - (intOf i).toNat)
  case atStart => exact ⟨0, 0, rfl, Nat.zero_le _, rfl, rfl⟩
  case round =>
    obtain ⟨k, m, rfl, hk, rfl, he⟩ := hrel
    have HE := Lib.hid he; clear he
    by_cases hlt : k < N
    case neg =>
      have HK : Hid (k = N) := by show k = N; omega
      go_wp2_with (go_at_call 46; refine (HAX.out _).mono ?_; rintro e w1 ⟨rfl, rfl⟩)
      go_ret
      exact BlD.mk m (by rw [HR.out, HE.out, HK.out, Nat.sub_self]; rfl)
    case pos =>
      obtain ⟨b1, o1, rfl, hc1⟩ := fcell HU.out (show k < n by omega)
      obtain ⟨b2, o2, rfl, hc2⟩ := fcell HV.out (show k < n by omega)
      have hks : (k : Int) < (N : Int) := by omega
      have hkn : (k : Int) < (n : Int) := by omega
      obtain ⟨q, hq⟩ : ∃ q, N - k = q + 1 := ⟨N - k - 1, by omega⟩
      have HQ := Lib.hid hq
      cases ho : ordE (x.getD k 0) (y.getD k 0) with
      | true =>
        have HN : Hid (eqR x y N 0 = eqR x y (N - (k + 1)) (k + 1)) := by
          show _ = _
          rw [HE.out, HQ.out, eqR, if_pos ho]; congr 1; have := HQ.out; omega
        have t1 : (FloatKind.f64.format.order (x.getD k 0) (y.getD k 0) == some .eq) = true := ho
        have t2 : (FloatKind.f64.format.order (x.getD k 0) (y.getD k 0) != some .eq) = false := by rw [bne, t1]; rfl
        clear hq ho
        generalize x.getD k 0 = p at *
        generalize y.getD k 0 = q' at *
        go_wp2_with (go_at_call 46; refine (HAX.out _).mono ?_; rintro e w1 ⟨rfl, rfl⟩)
        go_quiet (fail)
        go_wp2
        go_roundw
        case rel => exact ⟨k + 1, _, by go_num, by omega, rfl, HN.out⟩
        case measure => simp [intOf]; omega
      | false =>
        have HN : Hid (eqR x y N 0 = false) := by
          show _ = _
          rw [HE.out, HQ.out, eqR, if_neg (by rw [ho]; decide)]
        have t1 : (FloatKind.f64.format.order (x.getD k 0) (y.getD k 0) == some .eq) = false := ho
        have t2 : (FloatKind.f64.format.order (x.getD k 0) (y.getD k 0) != some .eq) = true := by rw [bne, t1]; rfl
        clear hq ho
        generalize x.getD k 0 = p at *
        generalize y.getD k 0 = q' at *
        go_wp2_with (go_at_call 46; refine (HAX.out _).mono ?_; rintro e w1 ⟨rfl, rfl⟩)
        go_quiet (fail)
        go_wp2
        go_ret
        exact ⟨by rw [HR.out, HN.out]; rfl, _, by simp only [drewN_add]; rfl⟩
set_option maxRecDepth 100000 in
set_option maxHeartbeats 4000000 in
theorem less_loop (c : Int) (A B : Option Addr) (n c1 c2 : Nat) (x y : List Nat) (w : World) (hu : FSl (.slice A n c1) x w) (hv : FSl (.slice B n c2) y w) (hx : n = x.length) (h2 : 2 ≤ n) (h9 : n ≤ 9) (u v : Value) (r : Bool) (huv : (c = 3 ∧ u = .slice B n c2 ∧ v = .slice A n c1) ∨ (c ≠ 3 ∧ u = .slice A n c1 ∧ v = .slice B n c2)) (hr : lsR x y (axN c n) 0 = r) :
    Calls Try.prog 45 #[.int .i64 c, u, v] w (BlD r w) := by
  have HU := Lib.hid hu; have HV := Lib.hid hv
  obtain ⟨N, hN⟩ : ∃ N, N = axN c n := ⟨_, rfl⟩
  have hNn : N ≤ n := by rw [hN]; exact axN_le c h2
  have HAX : Hid (∀ w, Calls Try.prog 46 #[.int .i64 c, .slice A n c1] w fun e w' => e = .returned (.int .i64 (N : Nat)) ∧ w' = w) := fun w => by rw [hN]; exact axes_calls c A n c1 w
  have HR : Hid (lsR x y N 0 = r) := by show _ = _; rw [hN]; exact hr
  clear hu hv hN hx hr
  rcases huv with ⟨rfl, rfl, rfl⟩ | ⟨hc3, rfl, rfl⟩
  all_goals
    first
      | (have hb3 : (c == 3) = false := by rw [beq_eq_false_iff_ne]; exact hc3
         clear hc3)
      | skip
    go_enter Try.func45, Try.ntmps45
    go_wp2
    go_loopw [7] (fun i wr => ∃ k m : Nat, i = .int .i64 k ∧ k ≤ N ∧ wr = w.drewN m ∧ lsR x y N 0 = lsR x y (N - k) k) (fun i _ => N - (intOf i).toNat)
    case atStart => exact ⟨0, 0, rfl, Nat.zero_le _, rfl, rfl⟩
    case round =>
      obtain ⟨k, m, rfl, hk, rfl, he⟩ := hrel
      have HE := Lib.hid he; clear he
      by_cases hlt : k < N
      case neg =>
        have HK : Hid (k = N) := by show k = N; omega
        go_wp2_with (go_at_call 46; refine (HAX.out _).mono ?_; rintro e w1 ⟨rfl, rfl⟩)
        go_ret
        exact BlD.mk m (by rw [← HR.out, HE.out, HK.out, Nat.sub_self]; rfl)
      case pos =>
        obtain ⟨b1, o1, rfl, hc1⟩ := fcell HU.out (show k < n by omega)
        obtain ⟨b2, o2, rfl, hc2⟩ := fcell HV.out (show k < n by omega)
        have hks : (k : Int) < (N : Int) := by omega
        have hkn : (k : Int) < (n : Int) := by omega
        obtain ⟨q, hq⟩ : ∃ q, N - k = q + 1 := ⟨N - k - 1, by omega⟩
        have HQ := Lib.hid hq
        cases ho : ordE (x.getD k 0) (y.getD k 0) with
        | true =>
          have HN : Hid (lsR x y N 0 = lsR x y (N - (k + 1)) (k + 1)) := by
            show _ = _
            rw [HE.out, HQ.out, lsR, if_pos ho]; congr 1; have := HQ.out; omega
          have t1 : (FloatKind.f64.format.order (x.getD k 0) (y.getD k 0) == some .eq) = true := ho
          have t2 : (FloatKind.f64.format.order (x.getD k 0) (y.getD k 0) != some .eq) = false := by rw [bne, t1]; rfl
          clear hq ho
          generalize x.getD k 0 = p at *
          generalize y.getD k 0 = q' at *
          go_wp2_with (go_at_call 46; refine (HAX.out _).mono ?_; rintro e w1 ⟨rfl, rfl⟩)
          go_quiet (fail)
          go_wp2
          go_roundw
          case rel => exact ⟨k + 1, _, by go_num, by omega, rfl, HN.out⟩
          case measure => simp [intOf]; omega
        | false =>
          have HN : Hid (lsR x y N 0 = ordL (x.getD k 0) (y.getD k 0)) := by
            show _ = _
            rw [HE.out, HQ.out, lsR, if_neg (by rw [ho]; decide)]
          have t1 : (FloatKind.f64.format.order (x.getD k 0) (y.getD k 0) == some .eq) = false := ho
          have t2 : (FloatKind.f64.format.order (x.getD k 0) (y.getD k 0) != some .eq) = true := by rw [bne, t1]; rfl
          obtain ⟨z, hz⟩ : ∃ z, z = ordL (x.getD k 0) (y.getD k 0) := ⟨_, rfl⟩
          have t3 : (FloatKind.f64.format.order (x.getD k 0) (y.getD k 0) == some .lt) = z := hz.symm
          rw [← hz] at HN
          clear hq ho hz
          generalize x.getD k 0 = p at *
          generalize y.getD k 0 = q' at *
          go_wp2_with (go_at_call 46; refine (HAX.out _).mono ?_; rintro e w1 ⟨rfl, rfl⟩)
          go_quiet (fail)
          go_wp2
          go_quiet (fail)
          go_wp2
          go_ret
          exact ⟨by rw [← HR.out, HN.out]; rfl, _, by simp only [drewN_add]; rfl⟩
theorem isLess_calls (c : Int) (A B : Option Addr) (n c1 c2 : Nat) (x y : List Nat) (w : World) (hu : FSl (.slice A n c1) x w) (hv : FSl (.slice B n c2) y w) (hx : n = x.length) (hy : n = y.length) (h2 : 2 ≤ n) (h9 : n ≤ 9) :
    Calls Try.prog 45 #[.int .i64 c, .slice A n c1, .slice B n c2] w (BlD (lsC c x y) w) := by
  by_cases h3 : c = 3
  · exact less_loop c B A n c2 c1 y x w hv hu hy h2 h9 _ _ _ (.inl ⟨h3, rfl, rfl⟩) (by unfold lsC; rw [if_pos h3, ← hy])
  · exact less_loop c A B n c1 c2 x y w hu hv hx h2 h9 _ _ _ (.inr ⟨h3, rfl, rfl⟩) (by unfold lsC; rw [if_neg h3, ← hx])
end Go.Proofs.Ytdcchejehomicaa
