import Derived.Test.YtdlhlgjgjkmdaaaGeoK
import Derived.Test.YtdlhlgjgjkmdaaaWhole
import Derived.Test.YtdlhlgjgjkmdaaaFlF
namespace Go.Proofs.Ytdlhlgjgjkmdaaa
open Go.ChangeShapes Go.WideShapes Go.ChangeAt Go.RowKit Go.GrowR
set_option linter.unusedVariables false
set_option linter.unusedSimpArgs false

/-- a list of floats that are these whole numbers, small -/
def Are (xs : List Nat) (ns : List Int) : Prop := ns.length = xs.length ∧ ∀ (i x : Nat), xs[i]? = some x → Fl.IsI x (ns.getD i 0) ∧ -1048576 ≤ ns.getD i 0 ∧ ns.getD i 0 ≤ 1048576
theorem are_of {xs : List Nat} (h : xs.all w20 = true) : ∃ ns, Are xs ns := by
  induction xs with
  | nil => exact ⟨[], rfl, by simp⟩
  | cons x xs ih =>
    rw [List.all_cons, Bool.and_eq_true] at h
    obtain ⟨ns, hl, hn⟩ := ih h.2
    obtain ⟨n, h0, h1, h2⟩ := Fl.wholeB_true h.1
    refine ⟨n :: ns, by simp [hl], fun i y hy => ?_⟩
    cases i with
    | zero => simp at hy; subst hy; exact ⟨h0, h1, h2⟩
    | succ i => simp at hy; simpa using hn i y (by simpa using hy)
theorem leB {x y : Nat} {a b : Int} (hx : Fl.IsI x a) (hy : Fl.IsI y b) : (FloatKind.f64.format.order x y == some .lt || FloatKind.f64.format.order x y == some .eq) = decide (a ≤ b) := by
  rw [Fl.order_I hx hy]
  rcases Int.lt_trichotomy a b with h | h | h
  · rw [Int.compare_eq_lt.2 h, decide_eq_true (by omega)]; rfl
  · rw [Int.compare_eq_eq.2 h, decide_eq_true (by omega)]; rfl
  · rw [Int.compare_eq_gt.2 h, decide_eq_false (by omega)]; rfl
theorem ltB {x y : Nat} {a b : Int} (hx : Fl.IsI x a) (hy : Fl.IsI y b) : (FloatKind.f64.format.order x y == some .lt) = decide (a < b) := by
  rw [Fl.order_I hx hy]
  rcases Int.lt_trichotomy a b with h | h | h
  · rw [Int.compare_eq_lt.2 h, decide_eq_true h]; rfl
  · rw [Int.compare_eq_eq.2 h, decide_eq_false (by omega)]; rfl
  · rw [Int.compare_eq_gt.2 h, decide_eq_false (by omega)]; rfl
theorem eqBI {x y : Nat} {a b : Int} (hx : Fl.IsI x a) (hy : Fl.IsI y b) : (FloatKind.f64.format.order x y == some .eq) = decide (a = b) := by
  rw [Fl.order_I hx hy]
  rcases Int.lt_trichotomy a b with h | h | h
  · rw [Int.compare_eq_lt.2 h, decide_eq_false (by omega)]; rfl
  · rw [Int.compare_eq_eq.2 h, decide_eq_true h]; rfl
  · rw [Int.compare_eq_gt.2 h, decide_eq_false (by omega)]; rfl
/-- the share of the way, as the code and the statement have it -/
def Share (v x y z : Nat) : Prop := ∃ d1 d2, floatBits .sub .f64 v x = some d1 ∧ floatBits .sub .f64 y x = some d2 ∧ floatBits .quo .f64 d1 d2 = some z
theorem share_ex {v x y : Nat} {a b c : Int} (hv : Fl.IsI v a) (hx : Fl.IsI x b) (hy : Fl.IsI y c) (h1 : (a - b).natAbs ≤ 2 ^ 53) (h2 : (c - b).natAbs ≤ 2 ^ 53) (hne : c ≠ b) : ∃ d1 d2 z, floatBits .sub .f64 v x = some d1 ∧ floatBits .sub .f64 y x = some d2 ∧ floatBits .quo .f64 d1 d2 = some z ∧ ∃ q, Fl.RN z q := by
  obtain ⟨d1, e1, i1⟩ := Fl.sub_I hv hx h1
  obtain ⟨d2, e2, i2⟩ := Fl.sub_I hy hx h2
  obtain ⟨z, e3, h3⟩ := Fl.div_V i1 i2 (by intro h; have : c - b = 0 := by exact_mod_cast h
                                           omega)
  exact ⟨d1, d2, z, e1, e2, e3, _, h3⟩
/-- what Interpolate gives: place i, and the share -/
def IpQ (xs : List Nat) (ns : List Int) (s K dim vb : Nat) (v : Int) (w : World) (e : Ending) (w' : World) : Prop := ∃ (i z : Nat), e = .returned (.tuple #[.int .i64 i, .float .f64 z]) ∧ Grow w w' ∧
  ((v ≤ ns.getD dim 0 ∧ i = 0 ∧ z = 0) ∨ (ns.getD dim 0 < v ∧ ns.getD ((K - 1) * s + dim) 0 ≤ v ∧ i = K - 1 ∧ z = 0) ∨
   (ns.getD dim 0 < v ∧ v < ns.getD ((K - 1) * s + dim) 0 ∧ i + 1 < K ∧ ns.getD (i * s + dim) 0 ≤ v ∧ v < ns.getD ((i + 1) * s + dim) 0 ∧ ((ns.getD (i * s + dim) 0 = v ∧ z = 0) ∨ (ns.getD (i * s + dim) 0 < v ∧ Share vb (xs.getD (i * s + dim) 0) (xs.getD ((i + 1) * s + dim) 0) z))))
set_option maxRecDepth 100000 in
set_option maxHeartbeats 8000000 in
theorem interp_calls (b0 : Nat) (l r : Int) (s K dim b o n c vb : Nat) (xs : List Nat) (ns : List Int) (v : Int) (w : World) (ho : Obj4 b0 l s r (.slice (some ⟨b, o, none⟩) n c) w) (hx : xs.length = n) (hcell : FCells w b o xs) (ha : Are xs ns) (hv : Fl.IsI vb v)
    (hn : n = K * s) (hK : 0 < K) (hs : 0 < s) (hs9 : s ≤ 9) (hd : dim < s) (hn2 : n ≤ 2000) (v0 : -1048576 ≤ v) (v1 : v ≤ 1048576) :
    Calls Try.prog 52 #[.pointer (some ⟨b0, 0, none⟩), .float .f64 vb, .int .i64 dim] w (IpQ xs ns s K dim vb v w) := by
  have HO := Lib.hid ho; have HC := Lib.hid hcell; have HA := Lib.hid ha; have HV := Lib.hid hv; have HN := Lib.hid hn; have HX := Lib.hid hx
  have hKn : K ≤ n := by rw [hn]; exact Nat.le_mul_of_pos_right K hs
  have hlast : (K - 1) * s + s = n := by rw [hn, ← Nat.succ_mul]; congr 1; omega
  obtain ⟨q, hq⟩ : ∃ q, q = (K - 1) * s := ⟨_, rfl⟩
  have HQ := Lib.hid hq
  rw [← hq] at hlast
  clear ho hcell ha hv hn hx hq
  obtain ⟨-, c1, c2, -, -⟩ := HO.out
  have hlen := HX.out
  obtain ⟨x0, hx0⟩ : ∃ x, xs[dim]? = some x := ⟨xs[dim]'(by omega), by simp⟩
  obtain ⟨x1, hx1⟩ : ∃ x, xs[q + dim]? = some x := ⟨xs[q + dim]'(by omega), by simp⟩
  have t0 := HC.out _ _ hx0
  have t1 := HC.out _ _ hx1
  obtain ⟨i0, -, -⟩ := HA.out.2 _ _ hx0
  obtain ⟨i1, -, -⟩ := HA.out.2 _ _ hx1
  have l0 := leB HV.out i0
  have l1 := leB i1 HV.out
  have hnz : ((n : Int) == 0) = false := by rw [beq_eq_false_iff_ne]; omega
  have hdi : (dim : Int) < (n : Int) := by omega
  clear hlen hx0 hx1 i0 i1
  by_cases hc0 : v ≤ ns.getD dim 0
  · rw [decide_eq_true hc0] at l0
    have H0 := Lib.hid hc0
    clear hc0
    go_enter Try.func52, Try.ntmps52
    go_wp2
    go_ret2
    exact ⟨0, 0, rfl, Grow.refl w, .inl ⟨H0.out, rfl, rfl⟩⟩
  rw [decide_eq_false hc0] at l0
  have H0 := Lib.hid (show ns.getD dim 0 < v by omega)
  clear hc0
  have w1 : IntKind.i64.wrap ((n : Int) - (s : Int)) = (n : Int) - (s : Int) := IntWalk.i64_in _ (by omega)
  have w2 : (n : Int) - (s : Int) = (q : Int) := by omega
  have w3 : IntKind.i64.wrap ((q : Int) + (dim : Int)) = (q : Int) + (dim : Int) := IntWalk.i64_in _ (by omega)
  have w4 : (0 : Int) ≤ (q : Int) + (dim : Int) := by omega
  have w5 : ((q : Int) + (dim : Int)).toNat = q + dim := by omega
  have w6 : (q : Int) + (dim : Int) < (n : Int) := by omega
  by_cases hc1 : ns.getD (q + dim) 0 ≤ v
  · rw [decide_eq_true hc1] at l1
    have H1 := Lib.hid hc1
    clear hc1
    have d1 : ((n : Int) - 1) / (s : Int) = ((K - 1 : Nat) : Int) := by
      have : (n - 1) / s = K - 1 := by
        have e : n - 1 = (K - 1) * s + (s - 1) := by have := HQ.out; omega
        rw [e, Nat.mul_comm, Nat.mul_add_div hs, Nat.div_eq_of_lt (by omega)]; omega
      rw [← this]; push_cast; congr 1; omega
    have d2 : ((n : Int) - 1).tdiv (s : Int) = ((K - 1 : Nat) : Int) := by rw [Int.tdiv_eq_ediv_of_nonneg (by omega)]; exact d1
    have d3 : ((s : Int) == 0) = false := by rw [beq_eq_false_iff_ne]; omega
    have d4 : ¬ (s : Int) = 0 := by omega
    have d5 : IntKind.i64.wrap ((K - 1 : Nat) : Int) = ((K - 1 : Nat) : Int) := IntWalk.i64_in _ (by omega)
    go_enter Try.func52, Try.ntmps52
    go_wp2
    go_quiet (fail)
    go_wp2
    go_ret2
    exact ⟨K - 1, 0, rfl, (Grow.refl w).drewN _, .inr (.inl ⟨H0.out, by rw [← HQ.out]; exact H1.out, rfl, rfl⟩)⟩
  rw [decide_eq_false hc1] at l1
  have H1 := Lib.hid (show v < ns.getD ((K - 1) * s + dim) 0 by rw [← HQ.out]; omega)
  clear hc1
  have d1 : (n : Int) / (s : Int) = (K : Int) := by
    have : n / s = K := by rw [HN.out, Nat.mul_div_cancel _ hs]
    rw [← this]; rfl
  have d2 : (n : Int).tdiv (s : Int) = (K : Int) := by rw [Int.tdiv_eq_ediv_of_nonneg (by omega)]; exact d1
  have d3 : ((s : Int) == 0) = false := by rw [beq_eq_false_iff_ne]; omega
  have d4 : ¬ (s : Int) = 0 := by omega
  have d5 : IntKind.i64.wrap (K : Int) = (K : Int) := IntWalk.i64_in _ (by omega)
  go_enter Try.func52, Try.ntmps52
  go_wp2
  go_quiet (fail)
  go_wp2
  clear d1 d2 d3 d4 d5 w1 w2 w3 w4 w5 w6 l0 l1 t0 t1 c1 c2 hnz
  generalize hwB : w.drewN _ = wB
  have HGB := Lib.hid (show Grow w wB by rw [← hwB]; exact (Grow.refl w).drewN _)
  clear hwB
  go_loopw [9, 10, 11] (fun lo hi mi wr => ∃ (a e : Nat), a ≤ e ∧ e ≤ K ∧ lo = .int .i64 a ∧ hi = .int .i64 e ∧ (a = 0 ∨ ns.getD ((a - 1) * s + dim) 0 ≤ v) ∧ (e = K ∨ v < ns.getD (e * s + dim) 0) ∧ Grow w wr) (fun lo hi mi _ => (intOf hi).toNat - (intOf lo).toNat)
  case atStart => exact ⟨0, K, Nat.zero_le _, Nat.le_refl _, rfl, rfl, .inl rfl, .inl rfl, HGB.out⟩
  case round =>
    obtain ⟨a, e, hae, heK, rfl, rfl, hlo, hhi, hg⟩ := hrel
    have HLO := Lib.hid hlo; have HHI := Lib.hid hhi; have HG := Lib.hid hg
    clear hlo hhi
    by_cases hlt : a < e
    case pos =>
      obtain ⟨m, hm⟩ : ∃ m, m = (a + e) / 2 := ⟨_, rfl⟩
      have hma : a ≤ m := by omega
      have hme : m < e := by omega
      have m1 : ((a : Int) + (e : Int)) / 2 = (m : Int) := by omega
      have m2 : ((a : Int) + (e : Int)).tdiv 2 = (m : Int) := by rw [Int.tdiv_eq_ediv_of_nonneg (by omega)]; exact m1
      have m3 : IntKind.i64.wrap ((a : Int) + (e : Int)) = (a : Int) + (e : Int) := IntWalk.i64_in _ (by omega)
      have m4 : IntKind.i64.wrap (m : Int) = (m : Int) := IntWalk.i64_in _ (by omega)
      obtain ⟨p, hp⟩ : ∃ p, p = m * s := ⟨_, rfl⟩
      have hps : p + s ≤ n := by
        have h1 := HN.out
        have h3 : (m + 1) * s ≤ K * s := Nat.mul_le_mul_right s (by omega)
        rw [Nat.add_mul] at h3; omega
      have hmul : (m : Int) * (s : Int) = (p : Int) := by rw [hp]; simp
      have p1 : IntKind.i64.wrap (p : Int) = (p : Int) := IntWalk.i64_in _ (by omega)
      have p3 : IntKind.i64.wrap ((p : Int) + (dim : Int)) = (p : Int) + (dim : Int) := IntWalk.i64_in _ (by omega)
      have p4 : (0 : Int) ≤ (p : Int) + (dim : Int) := by omega
      have p5 : ((p : Int) + (dim : Int)).toNat = p + dim := by omega
      have p6 : (p : Int) + (dim : Int) < (n : Int) := by omega
      have hlen := HX.out
      obtain ⟨x, hx⟩ : ∃ x, xs[p + dim]? = some x := ⟨xs[p + dim]'(by omega), by simp⟩
      have tc := up_cell (HC.out _ _ hx) hg
      obtain ⟨ii, -, -⟩ := HA.out.2 _ _ hx
      have lb := ltB HV.out ii
      obtain ⟨-, c1, c2, -, -⟩ := Obj4.up _ _ HO.out hg
      have HP := Lib.hid hp
      clear hm hp hx ii hlen hg
      by_cases hv : v < ns.getD (p + dim) 0
      · rw [decide_eq_true hv] at lb
        have HVV := Lib.hid hv
        clear hv
        go_wp2
        go_quiet (fail)
        go_wp2
        go_roundw
        case rel => exact ⟨a, m, by omega, by omega, rfl, rfl, HLO.out, .inr (by rw [← HP.out]; exact HVV.out), HG.out.drewN _⟩
        case measure => simp [intOf]; omega
      · rw [decide_eq_false hv] at lb
        have HVV := Lib.hid (show ns.getD (p + dim) 0 ≤ v by omega)
        clear hv
        go_wp2
        go_quiet (fail)
        go_wp2
        go_roundw
        case rel => exact ⟨m + 1, e, by omega, by omega, by go_num, rfl, .inr (by rw [Nat.add_sub_cancel, ← HP.out]; exact HVV.out), HHI.out, HG.out.drewN _⟩
        case measure => simp [intOf]; omega
    case neg =>
      have hae' : a = e := by omega
      subst hae'
      have ha0 : a ≠ 0 := by
        intro h0
        rcases HHI.out with h | h
        · omega
        · have := H0.out; rw [h0, Nat.zero_mul, Nat.zero_add] at h; omega
      have haK : a < K := by
        rcases Nat.lt_or_ge a K with h | h
        · exact h
        · exfalso
          obtain rfl : a = K := by omega
          rcases HLO.out with h2 | h2
          · omega
          · have := H1.out; omega
      obtain ⟨i, rfl⟩ : ∃ i, a = i + 1 := ⟨a - 1, by omega⟩
      have hfi : ns.getD (i * s + dim) 0 ≤ v := by rcases HLO.out with h | h; omega; simpa using h
      have hfj : v < ns.getD ((i + 1) * s + dim) 0 := by rcases HHI.out with h | h; omega; exact h
      have HFI := Lib.hid hfi; have HFJ := Lib.hid hfj
      obtain ⟨p, hp⟩ : ∃ p, p = i * s := ⟨_, rfl⟩
      have hps : p + s + s ≤ n := by
        have h1 := HN.out
        have h3 : (i + 2) * s ≤ K * s := Nat.mul_le_mul_right s (by omega)
        rw [Nat.add_mul] at h3; omega
      have hp2 : (i + 1) * s = p + s := by rw [Nat.add_mul, hp]; omega
      have HP2 := Lib.hid hp2
      have hmul : (i : Int) * (s : Int) = (p : Int) := by rw [hp]; simp
      have hmul2 : ((i : Int) + 1) * (s : Int) = (p : Int) + (s : Int) := by rw [Int.add_mul, hmul, Int.one_mul]
      have q1 : IntKind.i64.wrap (p : Int) = (p : Int) := IntWalk.i64_in _ (by omega)
      have q2 : IntKind.i64.wrap ((p : Int) + (s : Int)) = (p : Int) + (s : Int) := IntWalk.i64_in _ (by omega)
      have q3 : IntKind.i64.wrap ((p : Int) + (dim : Int)) = (p : Int) + (dim : Int) := IntWalk.i64_in _ (by omega)
      have q4 : (0 : Int) ≤ (p : Int) + (dim : Int) := by omega
      have q5 : ((p : Int) + (dim : Int)).toNat = p + dim := by omega
      have q6 : (p : Int) + (dim : Int) < (n : Int) := by omega
      have r3 : IntKind.i64.wrap ((p : Int) + (s : Int) + (dim : Int)) = (p : Int) + (s : Int) + (dim : Int) := IntWalk.i64_in _ (by omega)
      have r4 : (0 : Int) ≤ (p : Int) + (s : Int) + (dim : Int) := by omega
      have r5 : ((p : Int) + (s : Int) + (dim : Int)).toNat = p + s + dim := by omega
      have r6 : (p : Int) + (s : Int) + (dim : Int) < (n : Int) := by omega
      have r7 : IntKind.i64.wrap ((i : Int) + 1) = (i : Int) + 1 := IntWalk.i64_in _ (by omega)
      have r8 : IntKind.i64.wrap (i : Int) = (i : Int) := IntWalk.i64_in _ (by omega)
      have r9 : (i : Int) + 1 - 1 = (i : Int) := by omega
      have hlen := HX.out
      obtain ⟨x, hx⟩ : ∃ x, xs[p + dim]? = some x := ⟨xs[p + dim]'(by omega), by simp⟩
      obtain ⟨y, hy⟩ : ∃ x, xs[p + s + dim]? = some x := ⟨xs[p + s + dim]'(by omega), by simp⟩
      have tc := up_cell (HC.out _ _ hx) hg
      have td := up_cell (HC.out _ _ hy) hg
      obtain ⟨ii, bi0, bi1⟩ := HA.out.2 _ _ hx
      obtain ⟨ij, bj0, bj1⟩ := HA.out.2 _ _ hy
      have hfi' : ns.getD (p + dim) 0 ≤ v := by rw [hp]; exact hfi
      have hfj' : v < ns.getD (p + s + dim) 0 := by rw [← hp2]; exact hfj
      have hxx : Hid (xs.getD (i * s + dim) 0 = x) := by show _ = _; rw [← hp, List.getD_eq_getElem?_getD, hx]; rfl
      have hyy : Hid (xs.getD ((i + 1) * s + dim) 0 = y) := by show _ = _; rw [hp2, List.getD_eq_getElem?_getD, hy]; rfl
      have eb := eqBI HV.out ii
      obtain ⟨f1, f2, z, e1, e2, e3, -⟩ := share_ex HV.out ii ij (by omega) (by omega) (by omega)
      have HE1 := Lib.hid e1; have HE2 := Lib.hid e2; have HE3 := Lib.hid e3
      have g1 := fop (P := Try.prog) e1
      have g2 := fop (P := Try.prog) e2
      have g3 := fop (P := Try.prog) e3
      obtain ⟨-, c1, c2, -, -⟩ := Obj4.up _ _ HO.out hg
      have HP := Lib.hid hp
      clear hp hp2 hx hy ii ij hlen hfi hfj hfi' hfj' bi0 bi1 bj0 bj1 e1 e2 e3 hg ha0
      by_cases hv : v = ns.getD (p + dim) 0
      · rw [decide_eq_true hv] at eb
        have HVV := Lib.hid hv
        clear hv g1 g2 g3
        go_wp2
        go_quiet (fail)
        go_wp2
        go_ret2
        exact ⟨i, 0, by first | rfl | (congr 3; go_num), HG.out.drewN _, .inr (.inr ⟨H0.out, H1.out, by omega, HFI.out, HFJ.out, .inl ⟨by rw [← HP.out]; exact HVV.out.symm, rfl⟩⟩)⟩
      · rw [decide_eq_false hv] at eb
        have HVV := Lib.hid (show ns.getD (i * s + dim) 0 < v by have := HFI.out; have := HP.out; rw [this] at hv; omega)
        clear hv
        go_wp2
        go_quiet (fail)
        go_wp2
        go_quiet (fail)
        go_wp2
        go_ret2
        refine ⟨i, z, by first | rfl | (congr 3; go_num), by first | exact HG.out.drewN _ | exact (HG.out.drewN _).drewN _, .inr (.inr ⟨H0.out, H1.out, by omega, HFI.out, HFJ.out, .inr ⟨HVV.out, ?_⟩⟩)⟩
        rw [hxx.out, hyy.out]
        exact ⟨f1, f2, HE1.out, HE2.out, HE3.out⟩
end Go.Proofs.Ytdlhlgjgjkmdaaa
