import Derived.Test.YtcpdhkbmfgphpaaKdQ
namespace Go.Proofs.Ytcpdhkbmfgphpaa
open Go.ChangeShapes Go.WideShapes Go.ChangeAt Go.RowKit Go.GrowR
set_option linter.unusedVariables false
set_option linter.unusedSimpArgs false

theorem leB {x y : Nat} {a b : Int} (hx : Fl.IsI x a) (hy : Fl.IsI y b) : (FloatKind.f64.format.order x y == some .lt || FloatKind.f64.format.order x y == some .eq) = decide (a ≤ b) := by
  rw [Fl.order_I hx hy]
  rcases Int.lt_trichotomy a b with h | h | h
  · rw [Int.compare_eq_lt.2 h, decide_eq_true (by omega)]; rfl
  · subst h; rw [Int.compare_eq_eq.2 rfl, decide_eq_true (by omega)]; rfl
  · rw [Int.compare_eq_gt.2 h, decide_eq_false (by omega)]; rfl
theorem geB {x y : Nat} {a b : Int} (hx : Fl.IsI x a) (hy : Fl.IsI y b) : (FloatKind.f64.format.order x y == some .gt || FloatKind.f64.format.order x y == some .eq) = decide (b ≤ a) := by
  rw [Fl.order_I hx hy]
  rcases Int.lt_trichotomy a b with h | h | h
  · rw [Int.compare_eq_lt.2 h, decide_eq_false (by omega)]; rfl
  · subst h; rw [Int.compare_eq_eq.2 rfl, decide_eq_true (by omega)]; rfl
  · rw [Int.compare_eq_gt.2 h, decide_eq_true (by omega)]; rfl
theorem ltB {x y : Nat} {a b : Int} (hx : Fl.IsI x a) (hy : Fl.IsI y b) : (FloatKind.f64.format.order x y == some .lt) = decide (a < b) := by
  rw [Fl.order_I hx hy]
  rcases Int.lt_trichotomy a b with h | h | h
  · rw [Int.compare_eq_lt.2 h, decide_eq_true (by omega)]; rfl
  · subst h; rw [Int.compare_eq_eq.2 rfl, decide_eq_false (by omega)]; rfl
  · rw [Int.compare_eq_gt.2 h, decide_eq_false (by omega)]; rfl
theorem gtB {x y : Nat} {a b : Int} (hx : Fl.IsI x a) (hy : Fl.IsI y b) : (FloatKind.f64.format.order x y == some .gt) = decide (b < a) := by
  rw [Fl.order_I hx hy]
  rcases Int.lt_trichotomy a b with h | h | h
  · rw [Int.compare_eq_lt.2 h, decide_eq_false (by omega)]; rfl
  · subst h; rw [Int.compare_eq_eq.2 rfl, decide_eq_false (by omega)]; rfl
  · rw [Int.compare_eq_gt.2 h, decide_eq_true (by omega)]; rfl
/-- a k-d tree, as data -/
structure KD (ns : List KN) (root : Int) (d : Nat) (t : Kt.KT) (C : Nat → Nat → Int) : Prop where
  tr : Kt.Tr ns.length (kL ns) (kR ns) (-1) root t
  nd : t.ins.Nodup
  ord : (kw ns root).ord = t.ins
  len : t.ins.length = ns.length
  num : ∀ i ∈ t.ins, Num (kP ns i) d (C i)
  kd : t.All fun i l r => ∃ m : Nat, kPl ns i = (m : Int) ∧ m < d ∧ (∀ j ∈ l.ins, C j m ≤ C i m) ∧ ∀ j ∈ r.ins, C i m ≤ C j m
theorem num_row {p : List Nat} {d : Nat} (h : rowB 1048576 d p = true) : ∃ A, Num p d A := by
  unfold rowB at h
  simp only [Bool.and_eq_true, beq_iff_eq] at h
  obtain ⟨A, hA⟩ := num_of h.2
  rw [h.1] at hA
  exact ⟨A, hA⟩
theorem kt_all_imp {P Q : Nat → Kt.KT → Kt.KT → Prop} : ∀ {t : Kt.KT}, t.All P → (∀ i l r, i ∈ t.ins → (∀ x ∈ l.ins, x ∈ t.ins) → (∀ x ∈ r.ins, x ∈ t.ins) → P i l r → Q i l r) → t.All Q
  | .nil, _, _ => trivial
  | .node i l r, g, h => ⟨h i l r (by simp [Kt.KT.ins]) (fun x hx => by simp [Kt.KT.ins, hx]) (fun x hx => by simp [Kt.KT.ins, hx]) g.1,
      kt_all_imp g.2.1 fun i' l' r' h1 h2 h3 h4 => h i' l' r' (by simp [Kt.KT.ins, h1]) (fun x hx => by simp [Kt.KT.ins, h2 x hx]) (fun x hx => by simp [Kt.KT.ins, h3 x hx]) h4,
      kt_all_imp g.2.2 fun i' l' r' h1 h2 h3 h4 => h i' l' r' (by simp [Kt.KT.ins, h1]) (fun x hx => by simp [Kt.KT.ins, h2 x hx]) (fun x hx => by simp [Kt.KT.ins, h3 x hx]) h4⟩
theorem kdB_true {ns : List KN} {root : Int} {xs : List Nat} (h : kdB ns root xs = true) :
    1 ≤ ns.length ∧ ns.length ≤ 200 ∧ 1 ≤ xs.length ∧ xs.length ≤ 6 ∧ (∃ Q, Num xs xs.length Q) ∧ ∃ t C, KD ns root xs.length t C := by
  unfold kdB isKB gridB at h
  simp only [Bool.and_eq_true, decide_eq_true_eq, List.all_cons, List.all_nil, Bool.and_true] at h
  obtain ⟨⟨h1, h2, h3, h4, ⟨h5, -⟩, h6, h7, h8⟩, h9, h10, -⟩ := h
  refine ⟨h1, h2, h3, h4, num_row h5, ?_⟩
  obtain ⟨t, t1, t2, t3, -⟩ := Kt.walk0_ok h6
  have t3' : (kw ns root).ord = t.ins := t3
  rw [t3'] at h7 h8 h9 h10
  have hC : ∀ i, ∃ A, i ∈ t.ins → Num (kP ns i) xs.length A := fun i => by
    by_cases hi : i ∈ t.ins
    · obtain ⟨A, hA⟩ := num_row (List.all_eq_true.1 h10 _ (List.mem_map.2 ⟨i, hi, rfl⟩))
      exact ⟨A, fun _ => hA⟩
    · exact ⟨fun _ => 0, fun h => absurd h hi⟩
  obtain ⟨C, hC⟩ := Classical.skolem.1 hC
  refine ⟨t, C, t1, t2, t3', h9, hC, kt_all_imp (t1.all t2) fun i l r hi hl hr ⟨a0, a1, a2, a3, a4⟩ => ?_⟩
  obtain ⟨-, m, hm, hmd⟩ := nodeB_true (List.all_eq_true.1 h7 i hi)
  have hs := List.all_eq_true.1 h8 i hi
  unfold sidesB at hs
  simp only [Bool.and_eq_true] at hs
  have e1 : (kw ns (kL ns i)).ord = l.ins := (Kt.walk0_of (by omega) a1 a3).2.1
  have e2 : (kw ns (kR ns i)).ord = r.ins := (Kt.walk0_of (by omega) a2 a4).2.1
  rw [e1, e2] at hs
  refine ⟨m, hm, hmd, fun j hj => ?_, fun j hj => ?_⟩
  · have h := List.all_eq_true.1 hs.1 j hj
    unfold leS leF at h
    rw [show (kPl ns i).toNat = m by omega, leB ((hC j (hl j hj)).2 m hmd).1 ((hC i hi).2 m hmd).1] at h
    exact of_decide_eq_true h
  · have h := List.all_eq_true.1 hs.2 j hj
    unfold geS geF at h
    rw [show (kPl ns i).toNat = m by omega, geB ((hC j (hr j hj)).2 m hmd).1 ((hC i hi).2 m hmd).1] at h
    exact of_decide_eq_true h
set_option maxRecDepth 100000 in
set_option maxHeartbeats 4000000 in
theorem within_calls (u v q : Value) (mn mx xs : List Nat) (n : Nat) (Q A B : Nat → Int) (w : World) (hu : FSl u mn w) (hv : FSl v mx w) (hq : FSl q xs w) (hQ : Num xs n Q) (hA : Num mn n A) (hB : Num mx n B) (h6 : n ≤ 6) :
    Calls Try.prog 11 #[u, v, q] w (BoolQ (inB Q A B n) w) := by
  obtain ⟨P1, c1, rfl, hc1, hP1⟩ := hu
  obtain ⟨P2, c2, rfl, hc2, hP2⟩ := hv
  obtain ⟨P3, c3, rfl, hc3, hP3⟩ := hq
  have K1 := Lib.hid hP1; have K2 := Lib.hid hP2; have K3 := Lib.hid hP3
  have HQ := Lib.hid hQ; have HA := Lib.hid hA; have HB := Lib.hid hB
  have l1 := Lib.hid hA.1; have l2 := Lib.hid hB.1; have l3 := Lib.hid hQ.1
  rw [hA.1] at hc1; rw [hB.1] at hc2; rw [hQ.1] at hc3
  have hL : Value.slice P3 xs.length c3 = .slice P3 n c3 := by rw [hQ.1]
  rw [hL, hA.1, hB.1]
  clear hP1 hP2 hP3 hQ hA hB hL
  go_enter Try.func11, Try.ntmps11
  go_wp2
  go_loopw [11] (fun i wr => ∃ k : Nat, i = .int .i64 k ∧ k ≤ n ∧ (∀ j, j < k → A j ≤ Q j ∧ Q j ≤ B j) ∧ Grow w wr) (fun i _ => n - (intOf i).toNat)
  case atStart => exact ⟨0, rfl, Nat.zero_le _, fun j hj => absurd hj (by omega), Grow.refl _⟩
  case round =>
    obtain ⟨k, rfl, hk, hal, hgr⟩ := hrel
    have HAL := Lib.hid hal; have HGR := Lib.hid hgr
    clear hal
    by_cases hlt : k < n
    case neg =>
      have HT : Hid (inB Q A B n = true) := inB_true fun j hj => HAL.out j (by omega)
      go_wp2
      go_ret
      exact ⟨by rw [HT.out]; rfl, HGR.out⟩
    case pos =>
      obtain ⟨b1, o1, rfl, e1⟩ := FC_at K1.out (getD_some (by rw [l1.out]; exact hlt) : mn[k]? = _)
      obtain ⟨b2, o2, rfl, e2⟩ := FC_at K2.out (getD_some (by rw [l2.out]; exact hlt) : mx[k]? = _)
      obtain ⟨b3, o3, rfl, e3⟩ := FC_at K3.out (getD_some (by rw [l3.out]; exact hlt) : xs[k]? = _)
      replace e1 := up_cell e1 hgr
      replace e2 := up_cell e2 hgr
      replace e3 := up_cell e3 hgr
      have t1 := ltB (HQ.out.2 k hlt).1 (HA.out.2 k hlt).1
      have t2 := gtB (HQ.out.2 k hlt).1 (HB.out.2 k hlt).1
      have hk1 : (k : Int) < (n : Int) := by omega
      clear hgr
      generalize xs.getD k 0 = x at *
      generalize mn.getD k 0 = y at *
      generalize mx.getD k 0 = z at *
      by_cases h1 : A k ≤ Q k
      case neg =>
        have HF : Hid (inB Q A B n = false) := inB_false hlt (fun h => h1 h.1)
        rw [decide_eq_true (by omega)] at t1
        clear t2
        go_wp2
        go_ret
        exact ⟨by rw [HF.out]; rfl, HGR.out⟩
      rw [decide_eq_false (by omega)] at t1
      by_cases h2 : Q k ≤ B k
      case neg =>
        have HF : Hid (inB Q A B n = false) := inB_false hlt (fun h => h2 h.2)
        rw [decide_eq_true (by omega)] at t2
        go_wp2
        go_ret
        exact ⟨by rw [HF.out]; rfl, HGR.out⟩
      rw [decide_eq_false (by omega)] at t2
      have HN : Hid (∀ j, j < k + 1 → A j ≤ Q j ∧ Q j ≤ B j) := fun j hj => by
        rcases Nat.lt_or_eq_of_le (Nat.lt_succ_iff.1 hj) with h | rfl
        · exact HAL.out j h
        · exact ⟨h1, h2⟩
      go_wp2
      go_roundw
      case rel => exact ⟨k + 1, by first | go_num | (simp <;> omega), by omega, HN.out, HGR.out⟩
      case measure => simp [intOf]; omega
set_option maxRecDepth 100000 in
set_option maxHeartbeats 4000000 in
theorem some_calls (b : Nat) (u v q : Value) (mn mx xs : List Nat) (w : World) (hb0 : w.cell? ⟨b, 0, none⟩ = some u) (hb1 : w.cell? ⟨b, 1, none⟩ = some v) (hu : FSl u mn w) (hv : FSl v mx w) (hq : FSl q xs w) (h1 : 1 ≤ xs.length) (h6 : xs.length ≤ 6) (hg : gridB 1048576 xs.length [xs] = true) (hl1 : mn.length ≤ 2147483647) (hl2 : mx.length ≤ 2147483647) :
    Calls Try.prog 9 #[.slice (some ⟨b, 0, none⟩) 2 2, q] w (BoolQ (gridB 1048576 xs.length [mn, mx]) w) := by
  have HS : Hid (FSSl (.slice (some ⟨b, 0, none⟩) 2 2) [mn, mx] w) := ⟨_, _, rfl, Nat.le_refl _, .inr ⟨b, 0, rfl, fun i z hi => by
    match i, hi with
    | 0, hi => cases hi; exact ⟨u, hb0, hu⟩
    | 1, hi => cases hi; exact ⟨v, hb1, hv⟩⟩⟩
  have HC1 := Lib.hid (grid_calls _ [mn, mx] xs.length 4697254411347427328 1048576 w HS.out isI_20 (by decide) (by decide) (by simp) (by simp; omega) (by omega))
  have HQ := Lib.hid hq
  obtain ⟨P, c, rfl, -, -⟩ := hq
  have HC2 : Hid (∀ b' w', Grow w w' → w'.cell? ⟨b', 0, none⟩ = some (.slice P xs.length c) → Calls Try.prog 26 #[.slice (some ⟨b', 0, none⟩) 1 1, .int .i64 xs.length, .float .f64 4697254411347427328] w' fun e w'' => e = .returned (.bool true) ∧ w'' = w') := fun b' w' hgr hb' => by
    have := grid_calls _ [xs] xs.length 4697254411347427328 1048576 w' (fssl_one hb' (FSl.up _ _ HQ.out hgr)) isI_20 (by decide) (by decide) (by simp) (by simp; omega) (by omega)
    rwa [hg] at this
  have k1 : ¬ xs.length < 1 := by omega
  have k2 : (0 : Int) < (xs.length : Int) := by omega
  have k3 : 0 < xs.length := h1
  clear hb0 hb1 hu hv hg hl1 hl2
  cases hr : gridB 1048576 xs.length [mn, mx] with
  | false =>
    rw [hr] at HC1
    clear hr
    go_enter Try.func9, Try.ntmps9
    go_wp2_with fail
    refine HC1.out.mono ?_
    rintro e w1 ⟨rfl, rfl⟩
    go_wp2
    go_ret
    exact ⟨rfl, Grow.refl _⟩
  | true =>
    rw [hr] at HC1
    clear hr
    go_enter Try.func9, Try.ntmps9
    go_wp2_with fail
    refine HC1.out.mono ?_
    rintro e w1 ⟨rfl, rfl⟩
    go_wp2_with fail
    refine (HC2.out w1.heap.size _ ((Grow.refl _).alloc _) (by go_simp)).mono ?_
    rintro e w2 ⟨rfl, rfl⟩
    go_wp2
    go_ret
    exact ⟨rfl, (Grow.refl _).alloc _⟩
end Go.Proofs.Ytcpdhkbmfgphpaa
