import Derived.Test.YtdlhlgjgjkmdaaaInterpI
import Derived.Test.YtdlhlgjgjkmdaaaRowsC
import Derived.Test.YtdlhlgjgjkmdaaaEachW
import Derived.Test.YtdlhlgjgjkmdaaaPlainF
namespace Go.Proofs.Ytdlhlgjgjkmdaaa
open Go.ChangeShapes Go.WideShapes Go.ChangeAt Go.RowKit Go.GrowR
set_option linter.unusedVariables false
set_option linter.unusedSimpArgs false

def fAt (ns : List Int) (s dim i : Nat) : Int := ns.getD (i * s + dim) 0
/-- the last place whose ordinate is not above v *)-/
def atI (ns : List Int) (s dim : Nat) (v : Int) : Nat → Int
  | 0 => -1
  | j + 1 => if fAt ns s dim j ≤ v then j else atI ns s dim v j
def Mono (ns : List Int) (s dim j : Nat) : Prop := ∀ i, i + 1 < j → fAt ns s dim i ≤ fAt ns s dim (i + 1)
theorem Mono.le {ns : List Int} {s dim K : Nat} (h : Mono ns s dim K) : ∀ {i j : Nat}, i ≤ j → j < K → fAt ns s dim i ≤ fAt ns s dim j
  | i, 0, hij, _ => by obtain rfl : i = 0 := by omega
                       exact Int.le_refl _
  | i, j + 1, hij, hj => by
    by_cases e : i = j + 1
    · subst e; exact Int.le_refl _
    · have h1 := h.le (i := i) (j := j) (by omega) (by omega)
      have h2 := h j hj
      omega
theorem atI_of {ns : List Int} {s dim : Nat} {v : Int} {K i : Nat} (hm : Mono ns s dim K) (hi : i < K) (h1 : fAt ns s dim i ≤ v) : ∀ (j : Nat), j ≤ K → i < j → (∀ q, i < q → q < j → v < fAt ns s dim q) → atI ns s dim v j = i
  | 0, _, h, _ => by omega
  | j + 1, hj, h, hq => by
    unfold atI
    by_cases e : i = j
    · subst e; rw [if_pos h1]
    · rw [if_neg (by have := hq j (by omega) (by omega); omega)]
      exact atI_of hm hi h1 j (by omega) (by omega) (fun q h3 h4 => hq q h3 (by omega))
theorem atI_between {ns : List Int} {s dim : Nat} {v : Int} {K i : Nat} (hm : Mono ns s dim K) (hi : i + 1 < K) (h1 : fAt ns s dim i ≤ v) (h2 : v < fAt ns s dim (i + 1)) : atI ns s dim v K = i :=
  atI_of hm (by omega) h1 K (Nat.le_refl _) (by omega) (fun q h3 h4 => by have := hm.le (i := i + 1) (j := q) (by omega) h4; omega)
theorem atI_range {ns : List Int} {s dim : Nat} {v : Int} : ∀ (j : Nat), -1 ≤ atI ns s dim v j ∧ atI ns s dim v j < j
  | 0 => by simp [atI]
  | j + 1 => by
    unfold atI
    have := atI_range (ns := ns) (s := s) (dim := dim) (v := v) j
    split <;> omega
theorem atI_mid {ns : List Int} {s dim : Nat} {v : Int} (h0 : fAt ns s dim 0 ≤ v) : ∀ (j : Nat), 0 < j → ∃ i : Nat, i < j ∧ atI ns s dim v j = i ∧ fAt ns s dim i ≤ v ∧ ∀ q, i < q → q < j → v < fAt ns s dim q
  | 0, h => by omega
  | j + 1, _ => by
    by_cases hf : fAt ns s dim j ≤ v
    · exact ⟨j, by omega, by unfold atI; rw [if_pos hf], hf, fun q h1 h2 => by omega⟩
    · have hj : 0 < j := by
        rcases Nat.eq_zero_or_pos j with h | h
        · subst h; exact absurd h0 hf
        · exact h
      obtain ⟨i, h1, h2, h3, h4⟩ := atI_mid h0 j hj
      refine ⟨i, by omega, by unfold atI; rw [if_neg hf]; exact h2, h3, fun q h5 h6 => ?_⟩
      by_cases e : q = j
      · subst e; omega
      · exact h4 q h5 (by omega)
theorem geB {x y : Nat} {a b : Int} (hx : Fl.IsI x a) (hy : Fl.IsI y b) : (FloatKind.f64.format.order x y == some .gt || FloatKind.f64.format.order x y == some .eq) = decide (b ≤ a) := by
  rw [Fl.order_I hx hy]
  rcases Int.lt_trichotomy a b with h | h | h
  · rw [Int.compare_eq_lt.2 h, decide_eq_false (by omega)]; rfl
  · rw [Int.compare_eq_eq.2 h, decide_eq_true (by omega)]; rfl
  · rw [Int.compare_eq_gt.2 h, decide_eq_true (by omega)]; rfl
def LawQ (w : World) (e : Ending) (w' : World) : Prop := e = .returned (.bool true) ∧ Grow w w'
theorem share_uniq {v x y z z' : Nat} (h : Share v x y z) (h' : Share v x y z') : z = z' := by
  obtain ⟨d1, d2, a1, a2, a3⟩ := h
  obtain ⟨e1, e2, b1, b2, b3⟩ := h'
  rw [a1] at b1; rw [a2] at b2
  cases b1; cases b2
  rw [a3] at b3; cases b3; rfl
theorem small_div {a b : Int} (h0 : 0 ≤ a) (h1 : a < b) : (a : Rat) / (b : Rat) ≤ Fl.p2 1023 ∧ -((a : Rat) / (b : Rat)) ≤ Fl.p2 1023 := by
  have hb : (0 : Rat) < (b : Rat) := by exact_mod_cast (by omega : (0 : Int) < b)
  have ha : (0 : Rat) ≤ (a : Rat) := by exact_mod_cast h0
  have hab : (a : Rat) ≤ (b : Rat) := by exact_mod_cast (by omega : a ≤ b)
  have hq : (a : Rat) / (b : Rat) * (b : Rat) = (a : Rat) := Rat.div_mul_cancel (Rat.ne_of_gt hb)
  have hp : (1 : Rat) ≤ Fl.p2 1023 := by
    have := Fl.p2_mono (a := 0) (b := 1023) (by decide)
    rwa [Fl.p2_zero] at this
  have h2 : (a : Rat) / (b : Rat) ≤ 1 := Rat.le_of_mul_le_mul_right (c := (b : Rat)) (by rw [hq, Rat.one_mul]; exact hab) hb
  have h3 : 0 ≤ (a : Rat) / (b : Rat) := by
    refine Rat.le_of_mul_le_mul_right (c := (b : Rat)) ?_ hb
    rw [hq, Rat.zero_mul]; exact ha
  constructor
  · exact Rat.le_trans h2 hp
  · have : (0 : Rat) ≤ Fl.p2 1023 := Rat.le_of_lt (Fl.p2_pos _)
    grind
/-- a share is a number, 0 where the numerator is -/
theorem share_val {v x y z : Nat} {a b c : Int} (hv : Fl.IsI v a) (hx : Fl.IsI x b) (hy : Fl.IsI y c) (h1 : (a - b).natAbs ≤ 2 ^ 53) (h2 : (c - b).natAbs ≤ 2 ^ 53) (hab : b ≤ a) (hac : a < c) (h : Share v x y z) : ∃ q, Fl.V z q ∧ (a = b → q = 0) := by
  obtain ⟨d1, d2, e1, e2, e3⟩ := h
  obtain ⟨d1', f1, i1⟩ := Fl.sub_I hv hx h1
  obtain ⟨d2', f2, i2⟩ := Fl.sub_I hy hx h2
  rw [e1] at f1; rw [e2] at f2
  cases f1; cases f2
  obtain ⟨z', f3, r3⟩ := Fl.div_V i1 i2 (by intro h; have : c - b = 0 := by exact_mod_cast h
                                            omega)
  have : some z' = some z := by rw [← f3, ← e3]; rfl
  cases this
  obtain ⟨s1, s2⟩ := small_div (a := a - b) (b := c - b) (by omega) (by omega)
  obtain ⟨q, hq, _⟩ := r3.near s1 s2
  refine ⟨q, hq, fun h0 => ?_⟩
  have hz : ((a - b : Int) : Rat) / ((c - b : Int) : Rat) = ((0 : Int) : Rat) := by
    rw [show a - b = 0 by omega]
    rw [Rat.div_def]; simp
  rw [hz] at r3
  exact Fl.V_det hq (Fl.RN_int r3 (by decide))
theorem eq_self {z : Nat} {q : Rat} (h : Fl.V z q) : (FloatKind.f64.format.order z z == some .eq) = true := by rw [Fl.eq_V h h]; simp
theorem eq_zero {z : Nat} (h : Fl.V z 0) : (FloatKind.f64.format.order 0 z == some .eq) = true := by
  have h0 : Fl.V 0 0 := ⟨false, 0, -1074, by decide +kernel, by simp [Fl.dv]⟩
  rw [Fl.eq_V h0 h]; simp
set_option maxRecDepth 100000 in
set_option maxHeartbeats 16000000 in
theorem law_calls (g : GT) (gv : Value) (v d : Int) (w : World) (hg : GV g gv w) (hr : Reach44 g) : Calls Try.prog 5 #[gv, .int .i64 v, .int .i64 d] w (LawQ w) := by
  have HGV := Lib.hid hg
  obtain ⟨k, l, r, fl, en, ens, kids, A1, c1, A2, c2, A3, c3, A4, c4, rfl, rfl, hfl, hen, hens⟩ := hg.seven
  have HFL := Lib.hid hfl
  have HFT := Lib.hid (fun w' (hw : Grow w w') => fits2_calls _ _ w' hr (GV.up _ _ _ _ HGV.out hw))
  have HGG := Lib.hid (fun b c0 w' (hw : Grow w w') h7 => gGoodT _ b c0 _ _ _ _ _ _ _ _ _ _ _ _ _ _ _ w' hr h7 (GV.up _ _ _ _ HGV.out hw))
  clear hg hfl hen hens
  go_enter Try.func5, Try.ntmps5
  go_wp2_with fail
  refine (HFT.out _ ((Grow.refl w).alloc _)).mono ?_
  rintro e w1 ⟨r1, rfl, hg1, hr1⟩
  have H7 : Hid (Seven w.heap.size 0 k l r A1 fl.length c1 A2 en.length c2 A3 ens.length c3 A4 kids.length c4 w1) := ⟨up_cell (by go_simp) hg1, up_cell (by go_simp) hg1, up_cell (by go_simp) hg1, up_cell (by go_simp) hg1, up_cell (by go_simp) hg1, up_cell (by go_simp) hg1, up_cell (by go_simp) hg1⟩
  have HG1 := Lib.hid (((Grow.refl w).alloc _).trans hg1)
  have HR1 := Lib.hid hr1
  clear hg1 hr1
  cases r1 with
  | false =>
    go_wp2
    go_ret
    exact ⟨rfl, HG1.out⟩
  | true =>
    have H31 := Lib.hid (HR1.out (by first | rfl | trivial))
    obtain ⟨q0, q1, q2, q3, q4, q5, q6⟩ := H7.out
    simp only [Nat.zero_add] at q1 q2 q3 q4 q5 q6
    go_wp2_with fail
    refine (HGG.out w1.heap.size _ _ (HG1.out.trans ((Grow.refl w1).alloc _)) ⟨by go_simp, by go_simp, by go_simp, by go_simp, by go_simp, by go_simp, by go_simp⟩).mono ?_
    rintro e w2 ⟨r2, rfl, hg2, hr2⟩
    have hgt := ((Grow.refl w1).alloc _).trans hg2
    have HG2 := Lib.hid (HG1.out.trans hgt)
    have H72 := Lib.hid (Seven.up _ _ H7.out hgt)
    have HR2 := Lib.hid hr2
    clear hg2 hgt hr2 q0 q1 q2 q3 q4 q5 q6
    obtain ⟨q0, q1, q2, q3, q4, q5, q6⟩ := H72.out
    simp only [Nat.zero_add] at q1 q2 q3 q4 q5 q6
    cases r2 with
    | false =>
      clear q0 q1 q2 q3 q4 q5 q6
      go_wp2
      go_ret
      exact ⟨rfl, HG2.out⟩
    | true =>
      by_cases hk : k = 2
      case neg =>
        have e2 : (k != 2) = true := by simpa using hk
        clear hk
        go_wp2
        go_ret
        exact ⟨rfl, HG2.out⟩
      subst hk
      obtain ⟨s, hp⟩ := plainG (HR2.out (by first | rfl | trivial)) H31.out (by decide)
      obtain ⟨rfl, rfl⟩ := hp.line (.inl rfl)
      obtain rfl := hp.kids0
      simp only [List.length_nil] at *
      have HP := Lib.hid hp
      have hn2 := hp.flat
      have s2 := hp.s2
      have s9 := hp.s9
      clear hp
      by_cases hn0 : fl.length = 0
      case pos =>
        have e0 : ((fl.length : Int) == 0) = true := by rw [beq_iff_eq]; omega
        clear hn0
        go_wp2
        go_ret
        exact ⟨rfl, HG2.out⟩
      have e0 : ((fl.length : Int) == 0) = false := by rw [beq_eq_false_iff_ne]; omega
      have HE := Lib.hid (fun w' (hw : Grow w w') => eachWholeG 2 l r _ A2 A3 A4 0 c2 0 c3 c4 fl w' (FSl.up _ _ HFL.out hw) (by omega))
      cases hall : fl.all w20 with
      | false =>
        have HALL := Lib.hid hall; clear hall
        go_wp2_with (go_at_call 18; refine (HE.out _ HG2.out).mono ?_; rw [HALL.out]; rintro e w3 ⟨rfl, hg3⟩; have HG3 := Lib.hid (HG2.out.trans hg3); clear hg3)
        go_ret
        exact ⟨rfl, HG3.out⟩
      | true =>
      obtain ⟨ns, hare⟩ := are_of hall
      have HARE := Lib.hid hare
      have HALL := Lib.hid hall; clear hall hare
      have KS := Lib.hid (fun w => strideS l s w HP.out.st)
      by_cases hd0 : d < 0
      case pos =>
        go_wp2_with (go_at_call 18; refine (HE.out _ HG2.out).mono ?_; rw [HALL.out]; rintro e w3 ⟨rfl, hg3⟩; have HG3 := Lib.hid (HG2.out.trans hg3); clear hg3)
        go_ret
        exact ⟨rfl, HG3.out⟩
      obtain ⟨dim, rfl⟩ : ∃ k : Nat, d = k := ⟨d.toNat, by omega⟩
      have hd0' : decide ((dim : Int) < 0) = false := by simp
      clear hd0
      go_wp2_with fail
      refine (HE.out _ HG2.out).mono ?_
      rw [HALL.out]
      rintro e w3 ⟨rfl, hg3⟩
      have HG3 := Lib.hid (HG2.out.trans hg3)
      have H73 := Lib.hid (Seven.up _ _ H72.out hg3)
      clear q0 q1 q2 q3 q4 q5 q6 hg3 HE e0
      obtain ⟨q0, q1, q2, q3, q4, q5, q6⟩ := H73.out
      simp only [Nat.zero_add] at q1 q2 q3 q4 q5 q6
      by_cases hds : dim < s
      case neg =>
        have hds' : (s : Int) ≤ (dim : Int) := by omega
        have hds2 : decide (s ≤ dim) = true := by simp; omega
        clear hds
        go_wp2_with (go_at_call 20; refine (KS.out _).mono ?_; rintro e w4 ⟨rfl, rfl⟩)
        all_goals (go_ret; exact ⟨rfl, HG3.out⟩)
      have hds' : ¬ (s : Int) ≤ (dim : Int) := by omega
      have hds2 : decide (s ≤ dim) = false := by simp; omega
      by_cases hv0 : v < -1048576
      case pos =>
        go_wp2_with (go_at_call 20; refine (KS.out _).mono ?_; rintro e w4 ⟨rfl, rfl⟩)
        all_goals (go_ret; exact ⟨rfl, HG3.out⟩)
      by_cases hv1 : 1048576 < v
      case pos =>
        go_wp2_with (go_at_call 20; refine (KS.out _).mono ?_; rintro e w4 ⟨rfl, rfl⟩)
        all_goals (go_ret; exact ⟨rfl, HG3.out⟩)
      have b0 : -1048576 ≤ v := by omega
      have b1 : v ≤ 1048576 := by omega
      go_wp2_with (go_at_call 20; refine (KS.out _).mono ?_; rintro e w4 ⟨rfl, rfl⟩)
      clear hds' hds2 hv0 hv1 hd0'
      obtain ⟨A, cA, he, hcA, hA⟩ := HFL.out
      simp only [Value.slice.injEq, true_and] at he
      obtain ⟨rfl, rfl⟩ := he
      rcases hA with h0 | ⟨b, o, rfl, hcell⟩
      · exfalso; rw [h0] at hn0; simp at hn0
      have HC := Lib.hid hcell; clear hcell
      obtain ⟨K, hK⟩ : ∃ K, K = fl.length / s := ⟨_, rfl⟩
      have hdiv := HP.out.div
      rw [← hK] at hdiv
      have HD := Lib.hid hdiv
      have hK0 : 0 < K := by
        rcases Nat.eq_zero_or_pos K with h | h
        · exfalso; rw [h] at hdiv; simp at hdiv; rw [hdiv] at hn0; simp at hn0
        · exact h
      have hKn : K ≤ 2000 := by
        have : K ≤ fl.length := by rw [hdiv]; exact Nat.le_mul_of_pos_right K (by omega)
        omega
      clear hK hdiv hn0
      have KR := Lib.hid (fun w' => rows_calls b o c1 fl.length s K w' (by omega) s9 HD.out (by omega) hcA)
      have lw : w.heap.size < w4.heap.size := cell_ltH q0
      refine wp_region_grow (fun i => if i = 4 then some (fun _ _ V _ => V = .int .i64 s) else if i = 5 then some (fun _ _ V ww => VOwn 22 w4.heap.size V (rowsV b o c1 s K) ww) else none) (by kernel_rfl) (by kernel_rfl) ?_ ?_
      · intro i Φ h lo hi v
        (repeat' split at h) <;> cases h
        · exact fun _ _ h _ => h
        · exact VOwn.up
      repeat (first
        | (refine wpGrow_skip (by rfl) ?_; simp only [Act.put, List.setIfInBounds_toArray, List.set_cons_zero, List.set_cons_succ, Nat.reduceAdd])
        | (refine wpGrow_det' (by rfl) (by rfl) ?_; apply Exists.intro; refine ⟨fun w' hc hh => ?_, ?_⟩; (have hcell := grow_cell hc; clear hc hh; go_simp; rfl); simp only [Act.put, List.setIfInBounds_toArray, List.set_cons_zero, List.set_cons_succ, Nat.reduceAdd]))
      refine wpGrow_eff' (by rfl) (by rfl) (fun w' hc hh => ?_) (fun v lo hi w' hap hc hh hv => ?_)
      · clear hc hh
        go_simp
        go_at_call 20
        refine (KS.out _).mono ?_
        rintro e w5 ⟨rfl, rfl⟩
        exact EffPost.mk (Grow.refl _) rfl
      subst hv
      clear hc hh hap w'
      simp only [Act.put, List.setIfInBounds_toArray, List.set_cons_zero, List.set_cons_succ, Nat.reduceAdd]
      repeat (first
        | (refine wpGrow_skip (by rfl) ?_; simp only [Act.put, List.setIfInBounds_toArray, List.set_cons_zero, List.set_cons_succ, Nat.reduceAdd])
        | (refine wpGrow_det' (by rfl) (by rfl) ?_; apply Exists.intro; refine ⟨fun w' hc hh => ?_, ?_⟩; (have hcell := grow_cell hc; clear hc hh; go_simp; rfl); simp only [Act.put, List.setIfInBounds_toArray, List.set_cons_zero, List.set_cons_succ, Nat.reduceAdd]))
      refine wpGrow_eff' (by rfl) (by rfl) (fun w' hc hh => ?_) (fun v lo hi w' hap hc hh hv => ?_)
      · have HGC := Lib.hid hc
        clear hc hh
        go_simp
        go_at_call 21
        refine (KR.out _).mono ?_
        rintro e w5 ⟨V, rfl, hg5, hown⟩
        exact EffPost.mk hg5 (hown.mono HGC.out.size)
      obtain ⟨A5, n5, c5, rfl⟩ := VOwn.isSl hv
      clear hv
      clear hc hh hap w'
      simp only [Act.put, List.setIfInBounds_toArray, List.set_cons_zero, List.set_cons_succ, Nat.reduceAdd]
      repeat (first
        | (refine wpGrow_skip (by rfl) ?_; simp only [Act.put, List.setIfInBounds_toArray, List.set_cons_zero, List.set_cons_succ, Nat.reduceAdd])
        | (refine wpGrow_det' (by rfl) (by rfl) ?_; apply Exists.intro; refine ⟨fun w' hc hh => ?_, ?_⟩; (have hcell := grow_cell hc; clear hc hh; go_simp; rfl); simp only [Act.put, List.setIfInBounds_toArray, List.set_cons_zero, List.set_cons_succ, Nat.reduceAdd]))
      refine wpGrow_nil ?_
      intro w6 hg hh
      obtain ⟨-, hrows⟩ := (show True ∧ VOwn 22 w4.heap.size (.slice A5 n5 c5) (rowsV b o c1 s K) w6 from ⟨trivial, (hh 5).1⟩)
      have HG4 := Lib.hid (HG3.out.trans hg)
      have H74 := Lib.hid (Seven.up _ _ H73.out hg)
      have HRV := Lib.hid hrows
      obtain ⟨AV, cV, hVe, -, hVc⟩ := hrows.sl
      rw [rowsV_len] at hVe
      simp only [Value.slice.injEq] at hVe
      obtain ⟨rfl, rfl, rfl⟩ := hVe
      rcases hVc with h0 | ⟨bV, oV, rfl, hVc⟩
      · exfalso; have := rowsV_len b o c1 s n5; rw [h0] at this; simp at this; omega
      have HVC := Lib.hid hVc
      clear hh hg hrows hVc q0 q1 q2 q3 q4 q5 q6 KR lw
      obtain ⟨vb, hvb⟩ : ∃ vb, vb = floatOfInt .f64 v := ⟨_, rfl⟩
      have HVB := Lib.hid (show Fl.IsI vb v by rw [hvb]; exact Fl.ofInt_I v (by omega))
      have hcv : ∀ w, (convert 3 35 (.int .i64 v)).run Try.prog w = .ok (.float .f64 vb) w := fun w => by rw [hvb]; exact run_convert_int_float (P := Try.prog) (src := 3) (dst := 35) (q := .i64) (k := .f64) (n := v) (hs := by kernel_rfl) (hd := Try.underlying35) (w := w)
      clear hvb
      -- what is known of place j
      have HPL : Hid (∀ j, j < n5 → ∃ x, fl[j * s + dim]? = some x ∧ Fl.IsI x (fAt ns s dim j) ∧ -1048576 ≤ fAt ns s dim j ∧ fAt ns s dim j ≤ 1048576 ∧ ∀ wr, Grow w6 wr → wr.cell? ⟨bV, oV + j, none⟩ = some (.slice (some ⟨b, o + j * s, none⟩) s (c1 - j * s)) ∧ wr.cell? ⟨b, o + j * s + dim, none⟩ = some (.float .f64 x)) := fun j hj => by
        have hle : j * s + s ≤ fl.length := by
          have h1 := HD.out
          have h3 : (j + 1) * s ≤ n5 * s := Nat.mul_le_mul_right s hj
          rw [Nat.add_mul] at h3; omega
        obtain ⟨x, hx⟩ : ∃ x, fl[j * s + dim]? = some x := ⟨fl[j * s + dim]'(by omega), by simp⟩
        obtain ⟨i1, i2, i3⟩ := HARE.out.2 _ _ hx
        refine ⟨x, hx, i1, i2, i3, fun wr hw => ⟨up_cell (HVC.out j _ (rows_at b o c1 s n5 j hj)) hw, ?_⟩⟩
        have := up_cell (HC.out _ _ hx) (HG4.out.trans hw)
        rwa [← Nat.add_assoc] at this
      have hdi : (dim : Int) < (s : Int) := by omega
      go_wp2
      go_loopw [8, 9, 10, 67] (fun a x y i wr => ∃ (j : Nat), j ≤ n5 ∧ i = .int .i64 j ∧ a = .int .i64 (atI ns s dim v j) ∧ Mono ns s dim j ∧ Grow w6 wr) (fun _ _ _ i _ => n5 - (intOf i).toNat)
      case atStart => exact ⟨0, Nat.zero_le _, rfl, rfl, fun i hi => by omega, Grow.refl _⟩
      case round =>
        obtain ⟨j, hj, rfl, rfl, hmono, hg⟩ := hrel
        have HM := Lib.hid hmono; have HG := Lib.hid hg
        clear hmono
        by_cases hlt : j < n5
        case pos =>
          obtain ⟨x, hx, ix, bx0, bx1, hcx⟩ := HPL.out j hlt
          obtain ⟨cr, cx⟩ := hcx wr hg
          have hle := leB ix HVB.out
          have HAT := Lib.hid (show atI ns s dim v (j + 1) = if fAt ns s dim j ≤ v then (j : Int) else atI ns s dim v j from rfl)
          generalize atI ns s dim v j = at0 at *
          have hjn : (j : Int) < (n5 : Int) := by omega
          have hj1 : IntKind.i64.wrap ((j : Int) + 1) = (j : Int) + 1 := IntWalk.i64_in _ (by omega)
          by_cases hj0 : j = 0
          case pos =>
            subst hj0
            simp only [Nat.zero_mul, Nat.add_zero] at cr cx
            clear hx ix hcx hg bx0 bx1
            by_cases hfv : fAt ns s dim 0 ≤ v
            · rw [decide_eq_true hfv] at hle
              have HF := Lib.hid hfv; clear hfv
              go_wp2
              go_quiet (fail)
              go_wp2
              go_roundw
              case rel => exact ⟨1, by omega, by go_num, by rw [HAT.out, if_pos HF.out], fun i hi => by omega, by first | exact HG.out | exact HG.out.drewN _⟩
              case measure => simp [intOf]; omega
            · rw [decide_eq_false hfv] at hle
              have HF := Lib.hid hfv; clear hfv
              go_wp2
              go_quiet (fail)
              go_wp2
              go_roundw
              case rel => exact ⟨1, by omega, by go_num, by rw [HAT.out, if_neg (by have := HF.out; omega)], fun i hi => by omega, by first | exact HG.out | exact HG.out.drewN _⟩
              case measure => simp [intOf]; omega
          case neg =>
            obtain ⟨q, hq⟩ : ∃ q, j = q + 1 := ⟨j - 1, by omega⟩
            obtain ⟨y, hy, iy, by0, by1, hcy⟩ := HPL.out q (by omega)
            obtain ⟨dr, dx⟩ := hcy wr hg
            have hlt2 := ltB ix iy
            have HQ := Lib.hid hq
            have hq1 : (j : Int) - 1 = (q : Int) := by omega
            have hq2 : IntKind.i64.wrap ((j : Int) - 1) = (q : Int) := by rw [hq1]; exact IntWalk.i64_in _ (by omega)
            have hqn : (q : Int) < (n5 : Int) := by omega
            have hjp : (0 : Int) < (j : Int) := by omega
            have hjp2 : 0 < j := by omega
            clear hx ix hcx hg hy iy hcy bx0 bx1 by0 by1 hq hj0
            by_cases hdn : fAt ns s dim j < fAt ns s dim q
            · rw [decide_eq_true hdn] at hlt2
              clear hdn
              go_wp2
              go_quiet (fail)
              go_wp2
              go_ret
              exact ⟨rfl, (HG4.out.trans HG.out).drewN _⟩
            · rw [decide_eq_false hdn] at hlt2
              have HMN : Hid (Mono ns s dim (j + 1)) := fun i hi => by
                by_cases e : i + 1 < j
                · exact HM.out i e
                · obtain rfl : i = q := by have := HQ.out; omega
                  rw [← HQ.out]; omega
              clear hdn
              by_cases hfv : fAt ns s dim j ≤ v
              · rw [decide_eq_true hfv] at hle
                have HF := Lib.hid hfv; clear hfv
                go_wp2
                go_quiet (fail)
                go_wp2
                go_roundw
                case rel => exact ⟨j + 1, by omega, by go_num, by rw [HAT.out, if_pos HF.out], HMN.out, HG.out.drewN _⟩
                case measure => simp [intOf]; omega
              · rw [decide_eq_false hfv] at hle
                have HF := Lib.hid hfv; clear hfv
                go_wp2
                go_quiet (fail)
                go_wp2
                go_roundw
                case rel => exact ⟨j + 1, by omega, by go_num, by rw [HAT.out, if_neg (by have := HF.out; omega)], HMN.out, HG.out.drewN _⟩
                case measure => simp [intOf]; omega
        case neg =>
          obtain rfl : n5 = j := by omega
          obtain ⟨q, hq⟩ : ∃ q, n5 = q + 1 := ⟨n5 - 1, by omega⟩
          obtain ⟨x, hx, ix, bx0, bx1, hcx⟩ := HPL.out 0 (by omega)
          obtain ⟨cr, cx⟩ := hcx wr hg
          obtain ⟨y, hy, iy, by0, by1, hcy⟩ := HPL.out q (by omega)
          obtain ⟨dr, dx⟩ := hcy wr hg
          simp only [Nat.zero_mul, Nat.add_zero] at cr cx
          have hle := leB HVB.out ix
          have hge := geB HVB.out iy
          have hq1 : (n5 : Int) - 1 = (q : Int) := by omega
          have hq2 : IntKind.i64.wrap ((n5 : Int) - 1) = (q : Int) := by rw [hq1]; exact IntWalk.i64_in _ (by omega)
          have hqn : (q : Int) < (n5 : Int) := by omega
          have HQ := Lib.hid hq
          obtain ⟨at0, hat0⟩ : ∃ a, atI ns s dim v n5 = a := ⟨_, rfl⟩
          rw [hat0]
          have HAT := Lib.hid hat0; clear hat0
          have hmx := run_maxI (P := Try.prog) 0 at0
          have HIQ := Lib.hid (fun w' (hw : Grow w w') => implInterp_calls l r s n5 dim vb fl ns v _ c1 A2 0 c2 A3 0 c3 A4 0 c4 w' (FSl.up _ _ HFL.out hw) HARE.out HVB.out HD.out (by omega) (by omega) s9 hds (by omega) b0 b1 HP.out.l1 HP.out.l9 HP.out.st)
          have H0 : Hid (fAt ns s dim 0 = ns.getD dim 0) := by show fAt ns s dim 0 = ns.getD dim 0; unfold fAt; rw [Nat.zero_mul, Nat.zero_add]
          have HL : Hid (fAt ns s dim q = ns.getD ((n5 - 1) * s + dim) 0) := by show fAt ns s dim q = ns.getD ((n5 - 1) * s + dim) 0; rw [hq]; rfl
          obtain ⟨q0, q1, q2, q3, q4, q5, q6⟩ := Seven.up _ _ H74.out hg
          simp only [Nat.zero_add] at q1 q2 q3 q4 q5 q6
          have HGW := Lib.hid (HG4.out.trans hg)
          clear hx hcx hy hcy bx0 bx1 by0 by1 hq hg ix iy
          have z0 : (FloatKind.f64.format.order 0 0 == some .eq) = true := by decide +kernel
          by_cases ha : v ≤ fAt ns s dim 0
          case pos =>
            rw [decide_eq_true ha] at hle
            have HA := Lib.hid ha; clear ha
            go_wp2_with fail
            refine (HIQ.out _ HGW.out).mono ?_
            rintro e w7 ⟨i, z, rfl, hg7, hq7⟩
            have HG7 := Lib.hid (HGW.out.trans hg7)
            obtain ⟨rfl, rfl⟩ : i = 0 ∧ z = 0 := by
              have := HA.out; have := H0.out
              rcases hq7 with ⟨-, h1, h2⟩ | ⟨h1, -⟩ | ⟨h1, -⟩
              · exact ⟨h1, h2⟩
              · omega
              · omega
            clear hq7 hg7
            go_wp2
            go_ret
            exact ⟨rfl, HG7.out⟩
          case neg =>
            rw [decide_eq_false ha] at hle
            by_cases hb : fAt ns s dim q ≤ v
            case pos =>
              rw [decide_eq_true hb] at hge
              have HA := Lib.hid ha; clear ha
              have HB := Lib.hid hb; clear hb
              go_wp2_with fail
              refine (HIQ.out _ HGW.out).mono ?_
              rintro e w7 ⟨i, z, rfl, hg7, hq7⟩
              have HG7 := Lib.hid (HGW.out.trans hg7)
              obtain ⟨rfl, rfl⟩ : i = q ∧ z = 0 := by
                have := HA.out; have := H0.out; have := HB.out; have := HL.out; have := HQ.out
                rcases hq7 with ⟨h1, -⟩ | ⟨-, -, h1, h2⟩ | ⟨-, h1, -⟩
                · omega
                · exact ⟨by omega, h2⟩
                · omega
              clear hq7 hg7
              go_wp2
              go_ret
              exact ⟨rfl, HG7.out⟩
            case neg =>
              rw [decide_eq_false hb] at hge
              obtain ⟨i, hi, hai, hfi, hfq⟩ := atI_mid (ns := ns) (s := s) (dim := dim) (v := v) (by omega) n5 (by omega)
              have hi1 : i + 1 < n5 := by
                have := HQ.out
                rcases Nat.lt_or_ge (i + 1) n5 with h | h
                · exact h
                · obtain rfl : i = q := by omega
                  omega
              have hfj := hfq (i + 1) (by omega) hi1
              obtain rfl : at0 = (i : Int) := by rw [← HAT.out]; exact hai
              obtain ⟨xi, hxi, ixi, bi0, bi1, hci⟩ := HPL.out i (by omega)
              obtain ⟨cri, cxi⟩ := hci wr HG.out
              obtain ⟨xj, hxj, ixj, bj0, bj1, hcj⟩ := HPL.out (i + 1) hi1
              obtain ⟨crj, cxj⟩ := hcj wr HG.out
              obtain ⟨f1, f2, z', e1, e2, e3, -⟩ := share_ex HVB.out ixi ixj (by omega) (by omega) (by omega)
              have HSH := Lib.hid (show Share vb xi xj z' from ⟨f1, f2, e1, e2, e3⟩)
              obtain ⟨qz, hqz, hqz0⟩ := share_val HVB.out ixi ixj (by omega) (by omega) hfi hfj HSH.out
              have HVZ := Lib.hid hqz; have HVZ0 := Lib.hid hqz0
              have HXI : Hid (fl.getD (i * s + dim) 0 = xi) := by show _ = _; rw [List.getD_eq_getElem?_getD, hxi]; rfl
              have HXJ : Hid (fl.getD ((i + 1) * s + dim) 0 = xj) := by show _ = _; rw [List.getD_eq_getElem?_getD, hxj]; rfl
              have HFI := Lib.hid hfi; have HFJ := Lib.hid hfj; have HI1 := Lib.hid hi1
              have g1 := fop (P := Try.prog) e1
              have g2 := fop (P := Try.prog) e2
              have g3 := fop (P := Try.prog) e3
              have hi2 : (i : Int) < (n5 : Int) := by omega
              have hi3 : (i : Int) + 1 < (n5 : Int) := by omega
              have hi4 : IntKind.i64.wrap ((i : Int) + 1) = (i : Int) + 1 := IntWalk.i64_in _ (by omega)
              have hi5 : ((i : Int) + 1).toNat = i + 1 := by omega
              have hi6 : (0 : Int) ≤ (i : Int) + 1 := by omega
              have hmx2 : max (0 : Int) (i : Int) = (i : Int) := by omega
              rw [hmx2] at hmx
              have HA := Lib.hid ha; have HB := Lib.hid hb
              clear ha hb hai hfi hfq hfj hci hcj hxi hxj ixi ixj bi0 bi1 bj0 bj1 e1 e2 e3 hqz hqz0 hmx2 hi1 hi
              go_wp2
              go_quiet (fail)
              go_wp2_with fail
              refine (HIQ.out _ (by first | exact HGW.out | exact HGW.out.drewN _ | exact HGW.out.drew)).mono ?_
              rintro e w7 ⟨i', z, rfl, hg7, hq7⟩
              have HG7 : Hid (Grow w w7) := by show Grow w w7; first | exact HGW.out.trans hg7 | exact (HGW.out.drewN _).trans hg7 | exact HGW.out.drew.trans hg7
              have hz : i' = i ∧ (FloatKind.f64.format.order z z' == some .eq) = true := by
                have ha := HA.out; have h0 := H0.out; have hb := HB.out; have hL := HL.out
                rcases hq7 with ⟨h1, -⟩ | ⟨-, h1, -⟩ | ⟨-, -, h2, h3, h4, h5⟩
                · omega
                · omega
                · have hm : atI ns s dim v n5 = (i' : Int) := atI_between HM.out h2 h3 h4
                  obtain rfl : i' = i := by have := HAT.out; omega
                  refine ⟨rfl, ?_⟩
                  rcases h5 with ⟨h6, rfl⟩ | ⟨h6, h7⟩
                  · obtain rfl := HVZ0.out h6.symm
                    exact eq_zero HVZ.out
                  · rw [HXI.out, HXJ.out] at h7
                    obtain rfl := share_uniq h7 HSH.out
                    exact eq_self HVZ.out
              obtain ⟨rfl, hz⟩ := hz
              clear hq7 hg7
              go_wp2
              go_ret
              exact ⟨rfl, HG7.out⟩
end Go.Proofs.Ytdlhlgjgjkmdaaa
