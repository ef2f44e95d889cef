import Derived.Test.YtcpdhkbmfgphpaaKdR
namespace Go.Proofs.Ytcpdhkbmfgphpaa
open Go.ChangeShapes Go.WideShapes Go.ChangeAt Go.RowKit Go.GrowR
set_option linter.unusedVariables false
set_option linter.unusedSimpArgs false

set_option maxRecDepth 100000 in
set_option maxHeartbeats 8000000 in
theorem law_calls (v u : Value) (ns : List KN) (root : Int) (xs : List Nat) (w : World) (hv : KSl v ns w) (hwf : ∀ k ∈ ns, KN.wf k) (hu : FSl u xs w) :
    Calls Try.prog 3 #[v, .int .i64 root, u] w fun e w' => e = .returned (.bool true) ∧ Grow w w' := by
  have HV := Lib.hid hv; have HU := Lib.hid hu; have HWF := Lib.hid hwf
  have HF8 := Lib.hid (fits8_calls v ns w hv)
  clear hwf
  obtain ⟨A, c, rfl, -, -⟩ := hv
  obtain ⟨B, c', rfl, -, -⟩ := hu
  cases hf : fitsB ns with
  | false =>
    rw [hf] at HF8
    clear hf
    go_enter Try.func3, Try.ntmps3
    go_wp2_with (go_at_call 7; refine HF8.out.mono ?_; rintro e w1 ⟨rfl, hg1⟩; have HG1 := Lib.hid hg1; clear hg1)
    go_ret
    exact ⟨rfl, HG1.out⟩
  | true =>
  have HFI := Lib.hid hf
  rw [hf] at HF8
  clear hf
  by_cases hx : xs.length ≤ 2147483647
  case neg =>
    go_enter Try.func3, Try.ntmps3
    go_wp2_with (go_at_call 7; refine HF8.out.mono ?_; rintro e w1 ⟨rfl, hg1⟩; have HG1 := Lib.hid hg1; clear hg1)
    go_ret
    exact ⟨rfl, HG1.out⟩
  have HKD := Lib.hid (fun w' (hg : Grow w w') => kd_calls _ _ ns root xs w' (KSl.up _ _ HV.out hg) (FSl.up _ _ HU.out hg) HWF.out HFI.out hx)
  cases hk : kdB ns root xs with
  | false =>
    rw [hk] at HKD
    clear hk
    go_enter Try.func3, Try.ntmps3
    go_wp2_with (first | (go_at_call 7; refine HF8.out.mono ?_; rintro e w1 ⟨rfl, hg1⟩; have HG1 := Lib.hid hg1; clear hg1) | (go_at_call 8; refine (HKD.out _ HG1.out).mono ?_; rintro e w2 ⟨rfl, hg2⟩; have HG2 := Lib.hid (HG1.out.trans hg2); clear hg2))
    go_ret
    exact ⟨rfl, HG2.out⟩
  | true =>
  have HKB := Lib.hid hk
  rw [hk] at HKD
  clear hk
  obtain ⟨h1, h2, h3, h4, ⟨Q, hQ⟩, t, C, hkd⟩ := kdB_true HKB.out
  cases t with
  | nil => have := hkd.len; simp [Kt.KT.ins] at this; omega
  | node j l r =>
  have htr := hkd.tr
  obtain ⟨rfl, -, hj, -, -⟩ := htr
  have HTR := Lib.hid hkd.tr
  have HQ := Lib.hid hQ
  have hgq : gridB 1048576 xs.length [xs] = true := by
    have := HKB.out; unfold kdB at this; simp only [Bool.and_eq_true] at this; exact this.1.2.2.2.2.1
  have HGQ := Lib.hid hgq
  have hfit : fits9 (ns.getD j kn0) = true := by
    have := HFI.out
    unfold fitsB at this
    simp only [Bool.and_eq_true] at this
    exact List.all_eq_true.1 this.2 _ (List.mem_of_getElem? (kn_at hj))
  unfold fits9 at hfit
  simp only [Bool.and_eq_true, decide_eq_true_eq] at hfit
  obtain ⟨-, f2, f3⟩ := hfit
  obtain ⟨b, o, c1, p, mn, mx, he, hc, ⟨-, -, -, -, q4, q5⟩, -, hmn, hmx⟩ := HV.out.at (kn_at hj)
  simp only [Value.slice.injEq] at he
  obtain ⟨rfl, -, rfl⟩ := he
  have HMN := Lib.hid hmn; have HMX := Lib.hid hmx
  have HKC := Lib.hid (fun res (hr : rootHas (bxOf (ns.getD j kn0)) Q xs.length res) w' (hg : Grow w w') => kcontains_calls _ _ ns (j : Nat) j l r xs xs.length Q res w' (KSl.up _ _ HV.out hg) (FSl.up _ _ HU.out hg) HFI.out HTR.out HQ.out h4 hr)
  have HBX : Hid (bxOf (ns.getD j kn0) = if (ns.getD j kn0).mn = [] then none else some ((ns.getD j kn0).mn, (ns.getD j kn0).mx)) := rfl
  have hj1 : (j : Int) < (ns.length : Int) := by omega
  have hj0 : (0 : Int) ≤ (j : Int) := by omega
  clear hkd hQ hgq hc
  obtain ⟨A2, c2, rfl, -, -⟩ := hmn
  obtain ⟨A3, c3, rfl, -, -⟩ := hmx
  generalize (ns.getD j kn0).mn = ms at *
  generalize (ns.getD j kn0).mx = Ms at *
  go_enter Try.func3, Try.ntmps3
  go_wp2_with (first | (go_at_call 7; refine HF8.out.mono ?_; rintro e w1 ⟨rfl, hg1⟩; have HG1 := Lib.hid hg1; clear hg1) | (go_at_call 8; refine (HKD.out _ HG1.out).mono ?_; rintro e w2 ⟨rfl, hg2⟩; have HG2 := Lib.hid (HG1.out.trans hg2); clear hg2))
  have e4 := up_cell q4 HG2.out
  have e5 := up_cell q5 HG2.out
  clear q4 q5
  go_quiet (fail)
  have HGD := Lib.hid (HG2.out.drewN nq)
  generalize w2.drewN nq = W3 at *
  by_cases hl : ms.length = Ms.length
  case neg =>
    have hne : ((ms.length : Int) != (Ms.length : Int)) = true := by simp; omega
    clear hl
    go_wp2
    go_ret
    exact ⟨rfl, HGD.out⟩
  have hne : ((ms.length : Int) != (Ms.length : Int)) = false := by rw [hl]; simp
  by_cases hz : ms.length = 0
  · have HR := Lib.hid (HKC.out true (by rw [HBX.out, if_pos (List.eq_nil_of_length_eq_zero hz)]; exact .inl ⟨rfl, rfl⟩))
    have hzz : ((ms.length : Int) == 0) = true := by rw [hz]; rfl
    have hz0 : ¬ (0 : Int) < (ms.length : Int) := by omega
    have hz1 : ¬ 0 < ms.length := by omega
    clear hl hz
    go_wp2_with (go_at_call 10; refine (HR.out _ HGD.out).mono ?_; rintro e w3 ⟨rfl, hg3⟩; have HG3 := Lib.hid (HGD.out.trans hg3); clear hg3)
    go_ret
    exact ⟨rfl, HG3.out⟩
  · have hzz : ((ms.length : Int) == 0) = false := beq_eq_false_iff_ne.2 (by omega)
    have hz0 : (0 : Int) < (ms.length : Int) := by omega
    have hz1 : 0 < ms.length := by omega
    have HNE : Hid (ms ≠ []) := fun e => hz (by rw [e]; rfl)
    have HSO := Lib.hid (fun b' w' (hg : Grow w w') h0 h1 => some_calls b' _ _ _ ms Ms xs w' h0 h1 (FSl.up _ _ HMN.out hg) (FSl.up _ _ HMX.out hg) (FSl.up _ _ HU.out hg) h3 h4 HGQ.out f2 f3)
    clear hl hz
    cases hg : gridB 1048576 xs.length [ms, Ms] with
    | false =>
      rw [hg] at HSO
      clear hg
      go_wp2_with (go_at_call 9; refine (HSO.out W3.heap.size _ (HGD.out.alloc _) (by go_simp) (by go_simp)).mono ?_; rintro e w3 ⟨rfl, hg3⟩; have HG3 := Lib.hid ((HGD.out.alloc _).trans hg3); clear hg3)
      go_ret
      exact ⟨rfl, HG3.out⟩
    | true =>
      rw [hg] at HSO
      have hg' := hg
      unfold gridB at hg'
      simp only [List.all_cons, List.all_nil, Bool.and_true, Bool.and_eq_true] at hg'
      obtain ⟨⟨ga, gb⟩, -⟩ := hg'
      obtain ⟨MA, hMA⟩ := num_row ga
      obtain ⟨MB, hMB⟩ := num_row gb
      have HR := Lib.hid (HKC.out (inB Q MA MB xs.length) (by rw [HBX.out, if_neg HNE.out]; exact .inr ⟨ms, Ms, MA, MB, rfl, hMA, hMB, rfl⟩))
      have HWI := Lib.hid (fun w' (hg : Grow w w') => within_calls _ _ _ ms Ms xs xs.length Q MA MB w' (FSl.up _ _ HMN.out hg) (FSl.up _ _ HMX.out hg) (FSl.up _ _ HU.out hg) HQ.out hMA hMB h4)
      clear hg ga gb hMA hMB
      cases hin : inB Q MA MB xs.length with
      | _ =>
        rw [hin] at HR HWI
        clear hin
        go_wp2_with (first
          | (go_at_call 9; refine (HSO.out W3.heap.size _ (HGD.out.alloc _) (by go_simp) (by go_simp)).mono ?_; rintro e w3 ⟨rfl, hg3⟩; have HG3 := Lib.hid ((HGD.out.alloc _).trans hg3); clear hg3)
          | (go_at_call 10; refine (HR.out _ HG3.out).mono ?_; rintro e w4 ⟨rfl, hg4⟩; have HG4 := Lib.hid (HG3.out.trans hg4); clear hg4)
          | (go_at_call 11; refine (HWI.out _ HG4.out).mono ?_; rintro e w5 ⟨rfl, hg5⟩; have HG5 := Lib.hid (HG4.out.trans hg5); clear hg5))
        go_ret
        exact ⟨rfl, HG5.out⟩
end Go.Proofs.Ytcpdhkbmfgphpaa
