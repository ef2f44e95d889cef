import Derived.Test.YtcpdhkbmfgphpaaKdJ
namespace Go.Proofs.Ytcpdhkbmfgphpaa
open Go.ChangeShapes Go.WideShapes Go.ChangeAt Go.RowKit Go.GrowR
set_option linter.unusedVariables false
set_option linter.unusedSimpArgs false

def fits9 (k : KN) : Bool := decide (k.p.length ≤ 2147483647) && (decide (k.mn.length ≤ 2147483647) && decide (k.mx.length ≤ 2147483647))
def fitsB (ns : List KN) : Bool := decide (ns.length ≤ 2147483647) && ns.all fits9
set_option maxHeartbeats 2000000 in
theorem fits9_calls (p mn mx : Value) (k : KN) (w : World) (hp : FSl p k.p w) (hmn : FSl mn k.mn w) (hmx : FSl mx k.mx w) :
    Calls Try.prog 25 #[NodeF p k.pl k.l k.r mn mx] w (BoolQ (fits9 k) w) := by
  obtain ⟨A1, c1, rfl, -, -⟩ := hp
  obtain ⟨A2, c2, rfl, -, -⟩ := hmn
  obtain ⟨A3, c3, rfl, -, -⟩ := hmx
  unfold fits9
  generalize k.p.length = a
  generalize k.mn.length = b
  generalize k.mx.length = c
  by_cases h1 : a ≤ 2147483647
  · by_cases h2 : b ≤ 2147483647
    · by_cases h3 : c ≤ 2147483647
      all_goals
        rw [decide_eq_true h1, decide_eq_true h2]
        first | rw [decide_eq_true h3] | rw [decide_eq_false h3]
        go_enter Try.func25, Try.ntmps25
        go_wp2
        go_ret
        exact ⟨rfl, (Grow.refl w).alloc _⟩
    · rw [decide_eq_true h1, decide_eq_false h2]
      go_enter Try.func25, Try.ntmps25
      go_wp2
      go_ret
      exact ⟨rfl, (Grow.refl w).alloc _⟩
  · rw [decide_eq_false h1]
    go_enter Try.func25, Try.ntmps25
    go_wp2
    go_ret
    exact ⟨rfl, (Grow.refl w).alloc _⟩
set_option maxRecDepth 100000 in
set_option maxHeartbeats 4000000 in
theorem fits8_calls (v : Value) (ns : List KN) (w : World) (hv : KSl v ns w) :
    Calls Try.prog 7 #[v] w (BoolQ (fitsB ns) w) := by
  have HV := Lib.hid hv
  obtain ⟨A, c, rfl, -, -⟩ := hv
  by_cases hn : ns.length ≤ 2147483647
  case neg =>
    have HF : Hid (fitsB ns = false) := by show _ = _; unfold fitsB; rw [decide_eq_false hn]; rfl
    go_enter Try.func7, Try.ntmps7
    go_wp2
    go_ret
    exact ⟨by rw [HF.out]; rfl, Grow.refl w⟩
  go_enter Try.func7, Try.ntmps7
  go_wp2
  go_loopw [10] (fun i wr => ∃ k : Nat, i = .int .i64 k ∧ k ≤ ns.length ∧ (ns.take k).all fits9 = true ∧ Grow w wr) (fun i _ => ns.length - (intOf i).toNat)
  case atStart => exact ⟨0, rfl, Nat.zero_le _, rfl, Grow.refl _⟩
  case round =>
    obtain ⟨k, rfl, hk, hal, hgr⟩ := hrel
    have HAL := Lib.hid hal; have HGR := Lib.hid hgr
    clear hal hgr
    by_cases hlt : k < ns.length
    case neg =>
      have HT : Hid (fitsB ns = true) := by
        have h := HAL.out
        rw [List.take_of_length_le (by omega)] at h
        show _ = _
        unfold fitsB; rw [decide_eq_true hn, h]; rfl
      go_wp2
      go_ret
      exact ⟨by rw [HT.out]; rfl, HGR.out⟩
    case pos =>
      obtain ⟨kn, hkn⟩ : ∃ kn, ns[k]? = some kn := ⟨ns[k], by simp [hlt]⟩
      have HKN := Lib.hid hkn
      obtain ⟨b, o, c', p, mn, mx, he, hc, ⟨q0, q1, q2, q3, q4, q5⟩, hp, hmn, hmx⟩ := HV.out.at hkn
      simp only [Value.slice.injEq] at he
      obtain ⟨rfl, -, rfl⟩ := he
      have hq := HGR.out
      have r0 := up_cell q0 hq; have r1 := up_cell q1 hq; have r2 := up_cell q2 hq; have r3 := up_cell q3 hq; have r4 := up_cell q4 hq; have r5 := up_cell q5 hq
      have HC := Lib.hid (fun w' (hg : Grow w w') => fits9_calls _ _ _ kn w' (FSl.up _ _ hp hg) (FSl.up _ _ hmn hg) (FSl.up _ _ hmx hg))
      obtain ⟨A2, c2, rfl, -, -⟩ := hp
      obtain ⟨A3, c3, rfl, -, -⟩ := hmn
      obtain ⟨A4, c4, rfl, -, -⟩ := hmx
      clear q0 q1 q2 q3 q4 q5 hq hkn
      cases hf : fits9 kn with
      | false =>
        have HF : Hid (fitsB ns = false) := by show _ = _; unfold fitsB; rw [all_false_of _ _ k kn HKN.out hf]; simp
        rw [hf] at HC
        clear hf
        go_wp2_with fail
        refine (HC.out _ (HGR.out.alloc _)).mono ?_
        rintro e w1 ⟨rfl, hg⟩
        have HG := Lib.hid hg
        clear hg
        go_wp2
        go_ret
        exact ⟨by rw [HF.out]; rfl, (HGR.out.alloc _).trans HG.out⟩
      | true =>
        have HT : Hid ((ns.take (k + 1)).all fits9 = true) := by show _ = _; rw [all_take_succ _ _ _ _ HKN.out, HAL.out, hf]; rfl
        rw [hf] at HC
        clear hf
        go_wp2_with fail
        refine (HC.out _ (HGR.out.alloc _)).mono ?_
        rintro e w1 ⟨rfl, hg⟩
        have HG := Lib.hid hg
        clear hg
        go_wp2
        go_roundw
        case rel => exact ⟨k + 1, by go_num, by omega, HT.out, (HGR.out.alloc _).trans HG.out⟩
        case measure => simp [intOf]; omega
theorem fssl_one {w : World} {b : Nat} {u : Value} {xs : List Nat} (h : w.cell? ⟨b, 0, none⟩ = some u) (hu : FSl u xs w) : FSSl (.slice (some ⟨b, 0, none⟩) 1 1) [xs] w :=
  ⟨_, _, rfl, Nat.le_refl _, .inr ⟨b, 0, rfl, fun i z hi => by
    match i, hi with
    | 0, hi => cases hi; exact ⟨u, h, hu⟩⟩⟩
noncomputable def kdB (ns : List KN) (root : Int) (xs : List Nat) : Bool :=
  (decide (1 ≤ ns.length) && (decide (ns.length ≤ 200) && (decide (1 ≤ xs.length) && (decide (xs.length ≤ 6) && (gridB 1048576 xs.length [xs] && isKB ns root xs.length))))) &&
    (decide ((kw ns root).ord.length = ns.length) && gridB 1048576 xs.length ((kw ns root).ord.map (kP ns)))
set_option maxRecDepth 100000 in
set_option maxHeartbeats 4000000 in
theorem kd_calls (v u : Value) (ns : List KN) (root : Int) (xs : List Nat) (w : World) (hv : KSl v ns w) (hu : FSl u xs w) (hwf : ∀ k ∈ ns, KN.wf k) (hf : fitsB ns = true) (hx : xs.length ≤ 2147483647) :
    Calls Try.prog 8 #[v, .int .i64 root, u] w (BoolQ (kdB ns root xs) w) := by
  have HV := Lib.hid hv; have HU := Lib.hid hu
  unfold fitsB at hf
  simp only [Bool.and_eq_true, decide_eq_true_eq] at hf
  obtain ⟨hn, hall⟩ := hf
  have HPL : Hid (∀ p ∈ (kw ns root).ord.map (kP ns), p.length ≤ 2147483647) := fun p hp => by
    obtain ⟨i, hi, rfl⟩ := List.mem_map.1 hp
    have hil : i < ns.length := Kt.walk0_lt (L := kL ns) (R := kR ns) root i hi
    have := List.all_eq_true.1 hall _ (List.mem_of_getElem? (kn_at hil))
    unfold fits9 at this
    simp only [Bool.and_eq_true, decide_eq_true_eq] at this
    exact this.1
  have HWF := Lib.hid hwf
  clear hall hwf
  obtain ⟨A, c, rfl, -, -⟩ := hv
  obtain ⟨B, c', rfl, -, -⟩ := hu
  have FIN : ∀ b : Bool, b = kdB ns root xs → ∀ w' : World, Grow w w' → BoolQ (kdB ns root xs) w (.returned (.bool b)) w' := fun b hb w' hg => ⟨by rw [hb], hg⟩
  have HFIN := Lib.hid FIN
  clear FIN
  by_cases h1 : 1 ≤ ns.length
  case neg =>
    have HB : Hid (false = kdB ns root xs) := by show _ = _; unfold kdB; rw [decide_eq_false h1]; rfl
    have h0 : ns.length < 1 := by omega
    go_enter Try.func8, Try.ntmps8
    go_wp2
    go_ret
    exact HFIN.out _ HB.out _ (Grow.refl w)
  by_cases h2 : ns.length ≤ 200
  case neg =>
    have HB : Hid (false = kdB ns root xs) := by show _ = _; unfold kdB; rw [decide_eq_true h1, decide_eq_false h2]; rfl
    go_enter Try.func8, Try.ntmps8
    go_wp2
    go_ret
    exact HFIN.out _ HB.out _ (Grow.refl w)
  by_cases h3 : 1 ≤ xs.length
  case neg =>
    have HB : Hid (false = kdB ns root xs) := by show _ = _; unfold kdB; rw [decide_eq_true h1, decide_eq_true h2, decide_eq_false h3]; rfl
    have h0 : xs.length < 1 := by omega
    go_enter Try.func8, Try.ntmps8
    go_wp2
    go_ret
    exact HFIN.out _ HB.out _ (Grow.refl w)
  by_cases h4 : xs.length ≤ 6
  case neg =>
    have HB : Hid (false = kdB ns root xs) := by show _ = _; unfold kdB; rw [decide_eq_true h1, decide_eq_true h2, decide_eq_true h3, decide_eq_false h4]; rfl
    go_enter Try.func8, Try.ntmps8
    go_wp2
    go_ret
    exact HFIN.out _ HB.out _ (Grow.refl w)
  have HG1 := Lib.hid (fun b' w' (hg : Grow w w') (hb' : w'.cell? ⟨b', 0, none⟩ = some (.slice B xs.length c')) => grid_calls _ [xs] xs.length 4697254411347427328 1048576 w' (fssl_one hb' (FSl.up _ _ HU.out hg)) isI_20 (by decide) (by decide) (by simp) (by simp; omega) (by omega))
  have HK1 := Lib.hid (fun w' (hg : Grow w w') => isK_calls _ ns root xs.length w' (KSl.up _ _ HV.out hg) hn HWF.out)
  have HP1 := Lib.hid (fun w' (hg : Grow w w') => kpoints_calls _ ns root w' (KSl.up _ _ HV.out hg) hn)
  have HK0 : Hid (kdB ns root xs = ((gridB 1048576 xs.length [xs] && isKB ns root xs.length) && (decide ((kw ns root).ord.length = ns.length) && gridB 1048576 xs.length ((kw ns root).ord.map (kP ns))))) := by
    show _ = _; unfold kdB; rw [decide_eq_true h1, decide_eq_true h2, decide_eq_true h3, decide_eq_true h4]; rfl
  have hol : (kw ns root).ord.length ≤ 2147483647 := Nat.le_trans (Kt.walk0_len root) hn
  cases hg1 : gridB 1048576 xs.length [xs] with
  | false =>
    have HB : Hid (false = kdB ns root xs) := by show _ = _; rw [HK0.out, hg1]; rfl
    rw [hg1] at HG1
    clear hg1
    go_enter Try.func8, Try.ntmps8
    go_wp2_with (go_at_call 26; refine (HG1.out w.heap.size _ ((Grow.refl w).alloc _) (by go_simp)).mono ?_; rintro e w1 ⟨rfl, rfl⟩)
    go_ret
    exact HFIN.out _ HB.out _ ((Grow.refl w).alloc _)
  | true =>
  cases hk1 : isKB ns root xs.length with
  | false =>
    have HB : Hid (false = kdB ns root xs) := by show _ = _; rw [HK0.out, hg1, hk1]; rfl
    rw [hg1] at HG1; rw [hk1] at HK1
    clear hg1 hk1
    go_enter Try.func8, Try.ntmps8
    go_wp2_with (first
      | (go_at_call 26; refine (HG1.out w.heap.size _ ((Grow.refl w).alloc _) (by go_simp)).mono ?_; rintro e w1 ⟨rfl, rfl⟩)
      | (go_at_call 18; refine (HK1.out _ ((Grow.refl w).alloc _)).mono ?_; rintro e w1 ⟨rfl, hg⟩; have HG := Lib.hid hg; clear hg))
    go_ret
    exact HFIN.out _ HB.out _ (((Grow.refl w).alloc _).trans HG.out)
  | true =>
    rw [hg1] at HG1; rw [hk1] at HK1
    have HK2 : Hid (kdB ns root xs = (decide ((kw ns root).ord.length = ns.length) && gridB 1048576 xs.length ((kw ns root).ord.map (kP ns)))) := by show _ = _; rw [HK0.out, hg1, hk1]; rfl
    clear hg1 hk1
    by_cases h5 : (kw ns root).ord.length = ns.length
    case neg =>
      have HB : Hid (false = kdB ns root xs) := by show _ = _; rw [HK2.out, decide_eq_false h5]; rfl
      have hne : (((kw ns root).ord.length : Int) == (ns.length : Int)) = false := by simp; omega
      clear h5
      go_enter Try.func8, Try.ntmps8
      go_wp2_with (first
        | (go_at_call 26; refine (HG1.out w.heap.size _ ((Grow.refl w).alloc _) (by go_simp)).mono ?_; rintro e w1 ⟨rfl, rfl⟩)
        | (go_at_call 18; refine (HK1.out _ ((Grow.refl w).alloc _)).mono ?_; rintro e w1 ⟨rfl, hg⟩; have HG := Lib.hid (((Grow.refl w).alloc _).trans hg); clear hg)
        | (go_at_call 12; refine (HP1.out _ HG.out).mono ?_; rintro e w2 ⟨V, rfl, hg2, hp⟩; obtain ⟨A2, c2, rfl, -, -⟩ := hp; rw [List.length_map]; have HG2 := Lib.hid (HG.out.trans hg2); clear hg2))
      go_ret
      exact HFIN.out _ HB.out _ HG2.out
    case pos =>
      have HB : Hid (gridB 1048576 xs.length ((kw ns root).ord.map (kP ns)) = kdB ns root xs) := by show _ = _; rw [HK2.out, decide_eq_true h5]; rfl
      have H5 := Lib.hid h5
      clear h5
      go_enter Try.func8, Try.ntmps8
      go_wp2_with (first
        | (go_at_call 18; refine (HK1.out _ ((Grow.refl w).alloc _)).mono ?_; rintro e w1 ⟨rfl, hg⟩; have HG := Lib.hid (((Grow.refl w).alloc _).trans hg); clear hg)
        | (go_at_call 12; refine (HP1.out _ HG.out).mono ?_; rintro e w2 ⟨V, rfl, hg2, hp⟩; have HPS := Lib.hid hp; obtain ⟨A2, c2, rfl, -, -⟩ := hp; rw [List.length_map, H5.out] at *; have HG2 := Lib.hid (HG.out.trans hg2); clear hg2)
        | (go_at_call 26; refine (grid_calls _ _ xs.length 4697254411347427328 1048576 _ HPS.out isI_20 (by decide) (by decide) (by rw [List.length_map]; omega) (fun p hp => by have := HPL.out p hp; omega) (by omega)).mono ?_; rintro e w3 ⟨rfl, rfl⟩)
        | (go_at_call 26; refine (HG1.out w.heap.size _ ((Grow.refl w).alloc _) (by go_simp)).mono ?_; rintro e w1 ⟨rfl, rfl⟩))
      go_ret
      exact HFIN.out _ HB.out _ HG2.out
end Go.Proofs.Ytcpdhkbmfgphpaa
