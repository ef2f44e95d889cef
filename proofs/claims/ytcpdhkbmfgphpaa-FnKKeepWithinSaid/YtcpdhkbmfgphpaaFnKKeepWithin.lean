import Derived.Test.YtcpdhkbmfgphpaaHkZ
import Derived.Laws.Cover2
namespace Go.Proofs.Ytcpdhkbmfgphpaa
open Go.ChangeShapes Go.WideShapes Go.ChangeAt Go.RowKit Go.GrowR
set_option linter.unusedVariables false
set_option linter.unusedSimpArgs false

theorem srtB_parts {xs : List Nat} (h : srtB xs = true) : xs.length ≤ 200 ∧ ∀ x ∈ xs, finB x = true := by
  unfold srtB at h
  rw [Bool.and_eq_true, List.all_eq_true] at h
  exact ⟨of_decide_eq_true h.1, h.2⟩
theorem fl_map (f : Nat → Nat) (n : Nat) : fl f n = (((List.range n).map f).map (Value.float .f64)) := by unfold fl; rw [List.map_map]; rfl
theorem fin_of {f : Nat → Nat} {n : Nat} {M : List Nat} (h : ((List.range n).map f).Perm M) (hM : ∀ x ∈ M, finB x = true) : ∀ k, k < n → finB (f k) = true := fun k hk => hM _ (h.subset (List.mem_map.2 ⟨k, List.mem_range.2 hk, rfl⟩))
set_option maxRecDepth 100000 in
set_option maxHeartbeats 8000000 in
theorem law_calls (d : Nat) (v : Value) (xs : List Nat) (w : World) (hv : FSl v xs w) : Calls Try.prog 6 #[.float .f64 d, v] w fun e w' => e = .returned (.bool true) ∧ Grow w w' := by
  have HV := Lib.hid hv
  obtain ⟨A, c, rfl, -, -⟩ := hv
  by_cases hl : xs.length ≤ 2147483647
  case neg =>
    have hgt : (2147483647 : Int) < (xs.length : Int) := by omega
    go_enter Try.func6, Try.ntmps6
    go_wp2
    go_ret
    exact ⟨rfl, Grow.refl w⟩
  have hgt : (xs.length : Int) ≤ 2147483647 := by omega
  have HS := Lib.hid (sorted_callsN A xs.length c xs w HV.out rfl hl)
  cases hs : srtB xs with
  | false =>
    have HB := Lib.hid hs
    clear hs
    go_enter Try.func6, Try.ntmps6
    go_wp2_with (go_at_call 21; refine HS.out.mono ?_; rintro e w1 ⟨V, ok, rfl, hok, hg, -⟩; rw [HB.out] at hok; subst hok)
    go_ret
    exact ⟨rfl, hg⟩
  | true =>
  have HB := Lib.hid hs
  obtain ⟨hl2, hfin⟩ := srtB_parts hs
  have HFI := Lib.hid hfin; have HL2 := Lib.hid hl2
  clear hs hfin
  cases hd : finB d with
  | false =>
    have HD := Lib.hid hd
    clear hd
    go_enter Try.func6, Try.ntmps6
    go_wp2_with (first
      | (go_at_call 21; refine HS.out.mono ?_; rintro e w1 ⟨V, ok, rfl, hok, hg, -⟩; rw [HB.out] at hok; subst hok)
      | (go_at_call 22; refine (finiteK_calls _ _).mono ?_; rintro e w2 ⟨rfl, hg2⟩; rw [HD.out]))
    go_ret
    exact ⟨rfl, hg.trans hg2⟩
  | true =>
  have HD := Lib.hid hd
  clear hd
  have HKW := Lib.hid (fun w' (hg : Grow w w') => kkeep_calls A xs.length c d xs w' (FSl.up _ _ HV.out hg) rfl HL2.out HD.out HFI.out)
  go_enter Try.func6, Try.ntmps6
  go_wp2_with fail
  refine HS.out.mono ?_
  rintro e w1 ⟨V, ok, rfl, hok, hg1, hsr⟩
  rw [HB.out] at hok; subst hok
  obtain ⟨F, hoF, hpF, hsF⟩ := hsr rfl
  obtain ⟨A1, c1, hV1, -⟩ := row_isSl hoF
  rw [fl_len] at hV1; subst hV1
  have HOF := Lib.hid hoF; have HPF := Lib.hid hpF; have HSF := Lib.hid hsF; have HG1 := Lib.hid hg1
  clear hoF hpF hsF hg1 hsr
  go_wp2_with fail
  refine (finiteK_calls _ _).mono ?_
  rintro e w2 ⟨rfl, hg2⟩
  rw [HD.out]
  have HG2 := Lib.hid (HG1.out.trans hg2); have HCF := Lib.hid (CL.up _ _ (row_CL HOF.out).1 hg2); have HCC := Lib.hid (row_CL HOF.out).2
  clear hg2
  go_wp2_with fail
  refine (HKW.out _ HG2.out).mono ?_
  rintro e w3 ⟨V3, f, m, rfl, hg3, ho3, hp3⟩
  obtain ⟨A3, c3, hV3, -⟩ := row_isSl ho3
  rw [fl_len] at hV3; subst hV3
  have hm : m ≤ 200 := by
    have h1 := hp3.length_eq
    have h2 := List.length_filter_le (fun y => decide (vq y ≤ vq d)) xs
    have h3 := HL2.out
    simp at h1; omega
  have hM : ∀ x ∈ xs.filter (fun y => decide (vq y ≤ vq d)), finB x = true := fun x hx => HFI.out x ((List.mem_filter.1 hx).1)
  have HM := Lib.hid hm
  have hL3 : ((List.range m).map f).length = m := by simp
  have HS3 : Hid (Calls Try.prog 21 #[.slice A3 m c3] w3 (SrtQ ((List.range m).map f) w3)) := sorted_callsN A3 m c3 _ w3 (by rw [fl_map] at ho3; exact (VOwn.sl ho3).f) hL3.symm (by omega)
  have HB3 : Hid (srtB ((List.range m).map f) = true) := by
    show _ = _
    unfold srtB
    rw [hL3, decide_eq_true hm, Bool.true_and, List.all_eq_true]
    exact fun x hx => hM x (hp3.subset hx)
  have HP3 := Lib.hid hp3; have HMF := Lib.hid hM; have HG3 := Lib.hid hg3
  clear hm hM hL3 ho3 hp3 hg3
  go_wp2_with fail
  refine HS3.out.mono ?_
  rintro e w4 ⟨V4, ok, rfl, hok, hg4, hsr⟩
  rw [HB3.out] at hok; subst hok
  obtain ⟨G, hoG, hpG, hsG⟩ := hsr rfl
  rw [List.length_map, List.length_range] at hoG hpG hsG
  obtain ⟨A4, c4, hV4, -⟩ := row_isSl hoG
  rw [fl_len] at hV4; subst hV4
  have HOG := Lib.hid hoG; have HPG := Lib.hid hpG; have HSG := Lib.hid hsG; have HG4 := Lib.hid (HG2.out.trans (HG3.out.trans hg4)); have HCF4 := Lib.hid (CL.up _ _ HCF.out (HG3.out.trans hg4))
  clear hoG hpG hsG hg4 hsr
  have HU := Lib.hid (upTo_calls A1 xs.length c1 d F w4 HCF4.out HCC.out (fin_of HPF.out HFI.out) HD.out HL2.out)
  go_wp2_with fail
  refine HU.out.mono ?_
  rintro e w5 ⟨m', rfl, hm', hg5, hle, hgt'⟩
  have hup := upTo_filter HSF.out hm' hle hgt'
  have hperm : ((List.range m).map G).Perm ((List.range m').map F) := by
    refine HPG.out.trans (HP3.out.trans ?_)
    rw [← hup]
    exact (HPF.out.filter _).symm
  have hsF' : SortedTo F m' := fun a b h1 h2 => HSF.out a b h1 (by omega)
  obtain ⟨rfl, hsame⟩ := sorted_same hperm HSG.out hsF'
  have HE := Lib.hid (sameF_calls A4 A1 m c4 c1 G F w5 (CL.up _ _ (row_CL HOG.out).1 hg5) (CL.less (CL.up _ _ HCF4.out hg5) hm') (fin_of HPG.out (fun x hx => HMF.out x (HP3.out.subset hx))) (fun k hk => fin_of HPF.out HFI.out k (by omega)) hsame HM.out)
  have HG5 := Lib.hid (HG4.out.trans hg5)
  clear hm' hg5 hle hgt' hup hperm hsF' hsame
  go_wp2_with fail
  refine HE.out.mono ?_
  rintro e w6 ⟨rfl, hg6⟩
  go_wp2
  go_ret
  exact ⟨rfl, HG5.out.trans hg6⟩
end Go.Proofs.Ytcpdhkbmfgphpaa
