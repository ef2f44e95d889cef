import Derived.Test.YtcpdhkbmfgphpaaKiL
namespace Go.Proofs.Ytcpdhkbmfgphpaa
open Go.ChangeShapes Go.WideShapes Go.ChangeAt Go.RowKit Go.GrowR
set_option linter.unusedVariables false
set_option linter.unusedSimpArgs false

set_option maxRecDepth 100000 in
set_option maxHeartbeats 8000000 in
theorem law_calls (v u : Value) (ns : List KN) (root : Int) (xs : List Nat) (bd : Bool) (w : World) (hv : KSl v ns w) (hwf : ∀ k ∈ ns, KN.wf k) (hu : FSl u xs w) :
    Calls Try.prog 5 #[v, .int .i64 root, u, .bool bd] w fun e w' => e = .returned (.bool true) ∧ Grow w w' := by
  have HV := Lib.hid hv; have HU := Lib.hid hu; have HWF := Lib.hid hwf
  have HF8 := Lib.hid (fits8_calls v ns w hv)
  clear hwf
  obtain ⟨A, c, rfl, -, -⟩ := hv
  obtain ⟨B, c', rfl, -, -⟩ := hu
  cases hf : fitsB ns with
  | false =>
    rw [hf] at HF8
    clear hf
    go_enter Try.func5, Try.ntmps5
    go_wp2_with (go_at_call 7; refine HF8.out.mono ?_; rintro e w1 ⟨rfl, hg1⟩; have HG1 := Lib.hid hg1; clear hg1)
    go_ret
    exact ⟨rfl, HG1.out⟩
  | true =>
  have HFI := Lib.hid hf
  rw [hf] at HF8
  clear hf
  by_cases hx : xs.length ≤ 2147483647
  case neg =>
    go_enter Try.func5, Try.ntmps5
    go_wp2_with (go_at_call 7; refine HF8.out.mono ?_; rintro e w1 ⟨rfl, hg1⟩; have HG1 := Lib.hid hg1; clear hg1)
    go_ret
    exact ⟨rfl, HG1.out⟩
  have HKD := Lib.hid (fun w' (hg : Grow w w') => kd_calls _ _ ns root xs w' (KSl.up _ _ HV.out hg) (FSl.up _ _ HU.out hg) HWF.out HFI.out hx)
  cases hk : kdB ns root xs with
  | false =>
    rw [hk] at HKD
    clear hk
    go_enter Try.func5, Try.ntmps5
    go_wp2_with (first | (go_at_call 7; refine HF8.out.mono ?_; rintro e w1 ⟨rfl, hg1⟩; have HG1 := Lib.hid hg1; clear hg1) | (go_at_call 8; refine (HKD.out _ HG1.out).mono ?_; rintro e w2 ⟨rfl, hg2⟩; have HG2 := Lib.hid (HG1.out.trans hg2); clear hg2))
    go_ret
    exact ⟨rfl, HG2.out⟩
  | true =>
  have HKB := Lib.hid hk
  rw [hk] at HKD
  clear hk
  obtain ⟨h1, h2, h3, h4, ⟨Q, hQ⟩, t, C, hkd⟩ := kdB_true HKB.out
  have HLI := Lib.hid (fun w' (hg : Grow w w') => limited_calls _ ns xs.length w' (KSl.up _ _ HV.out hg) HFI.out h4)
  cases hli : limB xs.length ns with
  | false =>
    rw [hli] at HLI
    clear hli
    go_enter Try.func5, Try.ntmps5
    go_wp2_with (first | (go_at_call 7; refine HF8.out.mono ?_; rintro e w1 ⟨rfl, hg1⟩; have HG1 := Lib.hid hg1; clear hg1) | (go_at_call 8; refine (HKD.out _ HG1.out).mono ?_; rintro e w2 ⟨rfl, hg2⟩; have HG2 := Lib.hid (HG1.out.trans hg2); clear hg2) | (go_at_call 16; refine (HLI.out _ HG2.out).mono ?_; rintro e w3 ⟨rfl, hg3⟩; have HG3 := Lib.hid (HG2.out.trans hg3); clear hg3))
    go_ret
    exact ⟨rfl, HG3.out⟩
  | true =>
  cases t with
  | nil => have := hkd.len; simp [Kt.KT.ins] at this; omega
  | node j l r =>
  have htr := hkd.tr
  have hpt := hkd.pt
  have hwb := lim_wb hli (.node j l r) (fun i hi => (Kt.Tr.above htr i hi).2)
  rw [hli] at HLI
  have hQ' : Num xs xs.length (iv xs) := hQ.self
  have HQ := Lib.hid hQ'
  have hn : ns.length ≤ 2147483647 := by omega
  have hord : (kw ns root).ord.map (kP ns) = (toPT ns (.node j l r)).pts := by rw [hkd.ord, toPT_pts]
  have HPL : Hid ((toPT ns (.node j l r)).pts.length = ns.length) := by show _ = _; rw [toPT_pts, List.length_map, hkd.len]
  have HKP : Hid (∀ w', Grow w w' → Calls Try.prog 12 #[.slice A ns.length c, .int .i64 root] w' fun e w2 => ∃ V, e = .returned V ∧ Grow w' w2 ∧ FSSl V (toPT ns (.node j l r)).pts w2) := fun w' hg => (kpoints_calls _ ns root w' (KSl.up _ _ HV.out hg) hn).mono fun e w2 ⟨V, a, b, c⟩ => ⟨V, a, b, by rw [hord] at c; exact c⟩
  have HKI := Lib.hid (fun w' (hg : Grow w w') => kinsert_calls _ _ ns root j l r xs xs.length bd w' (KSl.up _ _ HV.out hg) (FSl.up _ _ HU.out hg) HFI.out htr hpt hwb hQ' h3 h4 (by omega) (by rw [← pts_len, HPL.out]; omega))
  have HNM := Lib.hid hpt.num
  have HTK := Lib.hid hpt
  clear hkd htr hpt hQ hQ' hord hwb hli
  generalize toPT ns (.node j l r) = t at *
  have hpl2 : t.pts.length ≤ 200 := by have := HPL.out; omega
  obtain ⟨LA, LB, hab1, hab2, hab3⟩ := ins_pts (p := xs) (pl := 0) HTK.out
  have HAB1 := Lib.hid hab1; have HAB2 := Lib.hid hab2; have HAB3 := Lib.hid hab3
  have HIZ := Lib.hid (ins_size (p := xs) (pl := 0) HTK.out)
  have HTZ : Hid (t.size = ns.length) := by show _ = _; rw [← pts_len, HPL.out]
  have HIK : Hid ((t.ins xs.length xs 0).KD xs.length) := ins_kd HQ.out (k := 0) (by omega) HTK.out
  clear hab1 hab2 hab3
  go_enter Try.func5, Try.ntmps5
  go_wp2_with (first | (go_at_call 7; refine HF8.out.mono ?_; rintro e w1 ⟨rfl, hg1⟩; have HG1 := Lib.hid hg1; clear hg1) | (go_at_call 8; refine (HKD.out _ HG1.out).mono ?_; rintro e w2 ⟨rfl, hg2⟩; have HG2 := Lib.hid (HG1.out.trans hg2); clear hg2) | (go_at_call 16; refine (HLI.out _ HG2.out).mono ?_; rintro e w3 ⟨rfl, hg3⟩; have HG3 := Lib.hid (HG2.out.trans hg3); clear hg3))
  refine (HKI.out _ HG3.out).mono ?_
  rintro e w4 ⟨V4, t4, rfl, hg4, hs4, hlk4, hwb4⟩
  have HG4 := Lib.hid (HG3.out.trans hg4)
  have HS4 := Lib.hid hs4
  have hsz4 : t4.size = ns.length + 1 := by rw [like_size hlk4, HIZ.out, HTZ.out]
  have hl4 : (t4.kns 0).length = ns.length + 1 := by rw [kns_len, hsz4]
  have hkd4 : t4.KD xs.length := hlk4.kd HIK.out
  obtain ⟨hisk, hpt4⟩ := isKB_of t4 hkd4
  have hpt4' : (kw (t4.kns 0) (rootIx t4 0)).ord.map (kP (t4.kns 0)) = LA ++ xs :: LB := by rw [hpt4, hlk4.pts, HAB2.out]
  have HIS : Hid (∀ w', Grow w4 w' → Calls Try.prog 18 #[V4, .int .i64 (rootIx t4 0), .int .i64 (xs.length : Nat)] w' (BoolQ true w')) := fun w' hg => by
    have h := isK_calls V4 (t4.kns 0) (rootIx t4 0) xs.length w' (KSl.up _ _ HS4.out hg) (by omega) (kns_wf h4 t4 0 hkd4 hwb4 (by omega))
    rw [hisk] at h; exact h
  have HP4 : Hid (∀ w', Grow w4 w' → Calls Try.prog 12 #[V4, .int .i64 (rootIx t4 0)] w' fun e w2 => ∃ V, e = .returned V ∧ Grow w' w2 ∧ FSSl V (LA ++ xs :: LB) w2) := fun w' hg => (kpoints_calls V4 (t4.kns 0) (rootIx t4 0) w' (KSl.up _ _ HS4.out hg) (by omega)).mono fun e w2 ⟨V, a, b, c⟩ => ⟨V, a, b, by rw [hpt4'] at c; exact c⟩
  obtain ⟨A4, c4, hV4, -, -⟩ := hs4
  rw [hl4] at hV4
  subst hV4
  obtain ⟨il, hil⟩ : ∃ il, il = rootIx t4 0 := ⟨_, rfl⟩
  rw [← hil] at HIS HP4
  rw [← hil]
  have hmem : ∀ q ∈ LA ++ LB, Num q xs.length (iv q) := fun q hq => HNM.out q (by rw [HAB1.out]; exact hq)
  have HWO := Lib.hid (fun V w' (hg : Grow w w') (h : FSSl V (LA ++ xs :: LB) w') => without_calls V (.slice B xs.length c') xs LA LB xs.length w' h (FSl.up _ _ HU.out hg) HQ.out (fun q hq => hmem q (by simp [hq])) HAB3.out h4 (by have := congrArg List.length HAB1.out; simp at *; omega))
  have HMM := Lib.hid hmem
  generalize LA ++ xs :: LB = PP at HP4 HWO
  generalize LA ++ LB = R at HWO HMM HAB1
  clear hg4 hlk4 hwb4 hsz4 hl4 hkd4 hisk hpt4 hpt4' hil hmem HS4
  go_wp2_with (first
    | (go_at_call 18; refine (HIS.out _ (Grow.refl _)).mono ?_; rintro e w5 ⟨rfl, hg5⟩; have HG5 := Lib.hid hg5; clear hg5))
  refine (HP4.out _ HG5.out).mono ?_
  rintro e w6 ⟨V6, rfl, hg6, hp6⟩
  have HG6 := Lib.hid (HG5.out.trans hg6)
  obtain ⟨A6, c6, hV6, hc6, -⟩ := id hp6
  have HWO6 := Lib.hid (HWO.out V6 w6 (HG4.out.trans HG6.out) hp6)
  clear hg6 hp6
  subst hV6
  go_wp2_with fail
  refine HWO6.out.mono ?_
  rintro e w7 ⟨V7, rfl, hg7, hp7⟩
  have HP7 := Lib.hid hp7
  have HG7 := Lib.hid ((HG4.out.trans HG6.out).trans hg7)
  obtain ⟨A7, c7, rfl, hc7, hA7⟩ := hp7
  have HA7 := Lib.hid hA7
  clear hg7 hA7
  go_wp2_with fail
  refine (HKP.out _ HG7.out).mono ?_
  rintro e w8 ⟨V8, rfl, hg8, hp8⟩
  have HP8 := Lib.hid (FSSl.up _ _ HP7.out hg8)
  have HG8 := Lib.hid (HG7.out.trans hg8)
  rw [HAB1.out] at hp8
  obtain ⟨A8, c8, rfl, hc8, hA8⟩ := hp8
  have HA8 := Lib.hid hA8
  have HU8 := Lib.hid (FSl.up _ _ HU.out HG8.out)
  clear hg8 hA8
  replace HA7 : Hid (R = [] ∨ ∃ b o, A7 = some ⟨b, o, none⟩ ∧ FSCells w8 b o R) := by
    obtain ⟨A', c', he, -, h⟩ := HP8.out
    simp only [Value.slice.injEq] at he
    obtain ⟨rfl, -, rfl⟩ := he
    exact h
  have HLL : Hid (R.length ≤ 200) := by show _ ≤ _; rw [← HAB1.out]; exact hpl2
  have hRL := HLL.out
  go_wp2
  go_loopw [86] (fun i wr => ∃ k : Nat, i = .int .i64 k ∧ k ≤ R.length ∧ Grow w8 wr) (fun i _ => R.length - (intOf i).toNat)
  case atStart => exact ⟨0, rfl, Nat.zero_le _, Grow.refl _⟩
  case round =>
    obtain ⟨k, rfl, hk, hgr⟩ := hrel
    have HGR := Lib.hid hgr
    by_cases hlt : k < R.length
    case neg =>
      clear hgr
      go_wp2
      go_ret
      exact ⟨rfl, HG8.out.trans HGR.out⟩
    case pos =>
      obtain ⟨q, hq⟩ : ∃ q, R[k]? = some q := ⟨R[k], by simp [hlt]⟩
      rcases HA7.out with h0 | ⟨b7, o7, rfl, hcell7⟩
      · exfalso; subst h0; simp at hlt
      rcases HA8.out with h0 | ⟨b8, o8, rfl, hcell8⟩
      · exfalso; subst h0; simp at hlt
      obtain ⟨z7, hz7, hq7⟩ := hcell7 k q hq
      obtain ⟨z8, hz8, hq8⟩ := hcell8 k q hq
      have y7 := up_cell hz7 hgr
      have y8 := up_cell hz8 hgr
      have HSP := Lib.hid (fun w' (hg : Grow w8 w') => samePoint_calls z7 z8 q q xs.length (iv q) (iv q) w' (FSl.up _ _ hq7 hg) (FSl.up _ _ hq8 hg) (HMM.out q (List.mem_of_getElem? hq)) (HMM.out q (List.mem_of_getElem? hq)) h4)
      rw [eqN_true (fun _ _ => rfl)] at HSP
      obtain ⟨B7, d7, rfl, -, -⟩ := hq7
      obtain ⟨B8, d8, rfl, -, -⟩ := hq8
      clear hcell7 hcell8 hz7 hz8 hgr hq
      go_wp2_with fail
      refine (HSP.out _ HGR.out).mono ?_
      rintro e w9 ⟨rfl, hg9⟩
      have HG9 := Lib.hid (HGR.out.trans hg9)
      clear hg9
      go_wp2
      go_roundw
      case rel => exact ⟨k + 1, by go_num, by omega, HG9.out⟩
      case measure => simp [intOf]; omega
end Go.Proofs.Ytcpdhkbmfgphpaa
